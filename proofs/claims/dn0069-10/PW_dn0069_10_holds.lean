import PyProof.Rows.All
import Wide.All
import OpenK.AllK
import Wide.FinOn
import Lean
import PySem.Challenge.RW_dn0069_10
set_option Elab.async false
set_option maxRecDepth 100000
set_option linter.all false
set_option genSizeOf false
set_option bootstrap.genMatcherCode false
section H10x
open PySem PySem.Calls PySem.W PyProof.Rows PySem.Builtin.Str
open PySem.W.X PySem.W.ZRun
set_option maxHeartbeats 0
namespace Mine
noncomputable def hGo : List Nat → Option Stmt → Option Stmt
  | [], s => s
  | j :: r, some (.ClassDef _ _ _ b _ _ _ _ _ _ _) => hGo r b[j]?
  | j :: r, some (.FunctionDef _ _ b _ _ _ _ _ _ _) => hGo r b[j]?
  | _, _ => none
noncomputable def hAt (p : Program) (l : List Nat) : Option Stmt := match l with
  | [] => none
  | i :: r => hGo r p.main.body[i]?
noncomputable def hPs (s : Option Stmt) : Arguments := match s with
  | some (.FunctionDef _ a _ _ _ _ _ _ _ _) => a
  | _ => default
noncomputable def hBd (s : Option Stmt) : List Stmt := match s with
  | some (.FunctionDef _ _ b _ _ _ _ _ _ _) => b
  | _ => []
noncomputable def hSc (s : Option Stmt) : Scope := match s with
  | some (.FunctionDef _ _ _ _ _ _ s _ _ _) => s
  | _ => default
noncomputable abbrev hs (x : String) : PySem.Str := PySem.Str.ofString x
noncomputable abbrev hk (P : Params) (x : String) (t : Nat) (v : PySem.Value) : DictEntry := ⟨PyData.keyHash P (hs x), .str (hs x) t, v⟩
noncomputable abbrev hW : Program := PySem.Challenge.pw_dn0069_10
noncomputable def view10 : Program := PySem.W.view PySem.Challenge.pw_dn0069_10 [0, 1, 3, 5, 7, 8, 10, 12, 13, 15, 16, 17, 18, 19, 20, 22, 24, 25, 27, 29, 30, 31, 32, 33]
noncomputable def ho1 (P : Params) : Obj := ⟨.type "dict", none, .dict #[hk P "builtins" 162 (.ref 4), hk P "__main__" 163 (.ref 5), hk P "_sre" 244 (.ref 12)] 3, #[]⟩
noncomputable def ho2 (P : Params) : Obj := ⟨.none, none, .dict #[⟨PyData.keyHash P (⟨#[105, 109, 112, 111, 114, 116, 46, 108, 111, 97, 100, 101, 100, 46, 95, 115, 114, 101]⟩), .str (⟨#[105, 109, 112, 111, 114, 116, 46, 108, 111, 97, 100, 101, 100, 46, 95, 115, 114, 101]⟩) 183, .bool true⟩, hk P "class._frozen_importlib.BuiltinImporter" 185 (.ref 14), ⟨PyData.keyHash P (⟨#[119, 97, 116, 99, 104, 101, 100, 46, 105, 109, 112, 111, 114, 116]⟩), .str (⟨#[119, 97, 116, 99, 104, 101, 100, 46, 105, 109, 112, 111, 114, 116]⟩) 206, .ref 18⟩, hk P "class._frozen_importlib.ModuleSpec" 216 (.ref 22), hk P "sys.modules.booked-epoch" 245 (.int (3) 0), ⟨PyData.keyHash P (⟨#[105, 109, 112, 111, 114, 116, 46, 108, 97, 116, 101, 114, 45, 108, 97, 105, 100, 46, 95, 115, 114, 101]⟩), .str (⟨#[105, 109, 112, 111, 114, 116, 46, 108, 97, 116, 101, 114, 45, 108, 97, 105, 100, 46, 95, 115, 114, 101]⟩) 270, .bool true⟩, hk P "watched.library" 272 (.ref 27), ⟨PyData.keyHash P (hs "watched.library-objects"), .str (hs "watched.library-objects") 0, .str ((⟨#[12]⟩ : PySem.Str)) 0⟩, ⟨PyData.keyHash P (hs "watched.library-deep._sre"), .str (hs "watched.library-deep._sre") 273, .str ((⟨#[4, 0, 0, 11, 4, 0, 0, 11, 4, 0, 0, 3, 4, 0, 0, 11, 8, 4, 100, 105, 99, 116, 2]⟩ : PySem.Str)) 0⟩] 9, #[]⟩
noncomputable def ho3 (P : Params) : Obj := ⟨.type "dict", none, .dict #[hk P "__name__" 165 (.str (hs "__main__") 164), hk P "__doc__" 166 (.none), hk P "__package__" 167 (.none), hk P "__loader__" 168 (.builtin "__main__.__loader__#opaque"), hk P "__spec__" 169 (.none), hk P "__annotations__" 170 (.ref 6), hk P "__builtins__" 171 (.ref 4), hk P "__file__" 173 (.str (hs "/claim/cut.py") 172), hk P "__cached__" 174 (.none), hk P "_sre" 275 (.ref 12)] 10, #[]⟩
noncomputable def ho11 (P : Params) : Obj := ⟨.type "dict", none, .dict #[hk P "__name__" 247 (.str (hs "_sre") 246), hk P "__doc__" 248 (.none), hk P "__package__" 250 (.str (hs "") 249), hk P "__loader__" 251 (.builtin "off-the-table:_sre.__loader__:shared#opaque"), hk P "__spec__" 252 (.builtin "off-the-table:_sre.__spec__:shared#opaque"), hk P "compile" 253 (.builtin "_sre.compile"), hk P "template" 254 (.builtin "off-the-table:_sre.template:shared#opaque"), hk P "getcodesize" 255 (.builtin "off-the-table:_sre.getcodesize:shared#opaque"), hk P "ascii_iscased" 256 (.builtin "off-the-table:_sre.ascii_iscased:shared#opaque"), hk P "unicode_iscased" 257 (.builtin "off-the-table:_sre.unicode_iscased:shared#opaque"), hk P "ascii_tolower" 258 (.builtin "off-the-table:_sre.ascii_tolower:shared#opaque"), hk P "unicode_tolower" 259 (.builtin "off-the-table:_sre.unicode_tolower:shared#opaque"), hk P "MAGIC" 261 (.int (20230612) 260), hk P "CODESIZE" 263 (.int (4) 262), hk P "MAXREPEAT" 265 (.int (4294967295) 264), hk P "MAXGROUPS" 267 (.int (1073741823) 266), hk P "copyright" 269 (.str (hs " SRE 2.2.2 Copyright (c) 1997-2002 by Secret Labs AB ") 268)] 17, #[]⟩
noncomputable def ho12 (P : Params) : Obj := ⟨.type "module", (some 11), .plain, #[]⟩
noncomputable def ho13 (P : Params) : Obj := ⟨.type "dict", none, .dict #[hk P "__module__" 189 (.str (hs "_frozen_importlib") 186), hk P "__firstlineno__" 190 (.int (971) 187), hk P "__doc__" 191 (.builtin "_frozen_importlib.BuiltinImporter.__doc__:str#opaque"), hk P "_ORIGIN" 192 (.str (hs "built-in") 188), hk P "find_spec" 193 (.builtin "_frozen_importlib.BuiltinImporter.find_spec#opaque"), hk P "create_module" 194 (.builtin "_frozen_importlib.BuiltinImporter.create_module#opaque"), hk P "exec_module" 195 (.builtin "_frozen_importlib.BuiltinImporter.exec_module#opaque"), hk P "get_code" 196 (.builtin "_frozen_importlib.BuiltinImporter.get_code#opaque"), hk P "get_source" 197 (.builtin "_frozen_importlib.BuiltinImporter.get_source#opaque"), hk P "is_package" 198 (.builtin "_frozen_importlib.BuiltinImporter.is_package#opaque"), hk P "load_module" 199 (.builtin "_frozen_importlib.BuiltinImporter.load_module#opaque"), hk P "__static_attributes__" 200 (.ref 15), hk P "__dict__" 202 (.ref 16), hk P "__weakref__" 204 (.ref 17)] 14, #[]⟩
noncomputable def ho14 (P : Params) : Obj := ⟨.type "type", none, .cls ⟨hs "BuiltinImporter", [.type "object"], [.ref 14, .type "object"], 13, hs "BuiltinImporter", true, [], [], false, none, false⟩, #[]⟩
noncomputable def ho15 (P : Params) : Obj := ⟨.type "tuple", none, .seq #[] 0, #[]⟩
noncomputable def ho16 (P : Params) : Obj := ⟨.type "getset_descriptor", none, .fields #[.str (hs "__dict__") 201, .ref 14, .builtin "function.__dict__", .builtin "function.__dict__#set"], #[]⟩
noncomputable def ho17 (P : Params) : Obj := ⟨.type "getset_descriptor", none, .fields #[.str (hs "__weakref__") 203, .ref 14, .builtin "ExceptionGroup.__weakref__", .none], #[]⟩
noncomputable def ho18 (P : Params) : Obj := ⟨.none, none, .seq #[.int (13) 0, .str ((⟨#[6, 189, 10, 95, 95, 109, 111, 100, 117, 108, 101, 95, 95, 6, 186, 17, 95, 102, 114, 111, 122, 101, 110, 95, 105, 109, 112, 111, 114, 116, 108, 105, 98, 6, 190, 15, 95, 95, 102, 105, 114, 115, 116, 108, 105, 110, 101, 110, 111, 95, 95, 4, 187, 0, 971, 6, 191, 7, 95, 95, 100, 111, 99, 95, 95, 9, 52, 95, 102, 114, 111, 122, 101, 110, 95, 105, 109, 112, 111, 114, 116, 108, 105, 98, 46, 66, 117, 105, 108, 116, 105, 110, 73, 109, 112, 111, 114, 116, 101, 114, 46, 95, 95, 100, 111, 99, 95, 95, 58, 115, 116, 114, 35, 111, 112, 97, 113, 117, 101, 6, 192, 7, 95, 79, 82, 73, 71, 73, 78, 6, 188, 8, 98, 117, 105, 108, 116, 45, 105, 110, 6, 193, 9, 102, 105, 110, 100, 95, 115, 112, 101, 99, 9, 50, 95, 102, 114, 111, 122, 101, 110, 95, 105, 109, 112, 111, 114, 116, 108, 105, 98, 46, 66, 117, 105, 108, 116, 105, 110, 73, 109, 112, 111, 114, 116, 101, 114, 46, 102, 105, 110, 100, 95, 115, 112, 101, 99, 35, 111, 112, 97, 113, 117, 101, 6, 194, 13, 99, 114, 101, 97, 116, 101, 95, 109, 111, 100, 117, 108, 101, 9, 54, 95, 102, 114, 111, 122, 101, 110, 95, 105, 109, 112, 111, 114, 116, 108, 105, 98, 46, 66, 117, 105, 108, 116, 105, 110, 73, 109, 112, 111, 114, 116, 101, 114, 46, 99, 114, 101, 97, 116, 101, 95, 109, 111, 100, 117, 108, 101, 35, 111, 112, 97, 113, 117, 101, 6, 195, 11, 101, 120, 101, 99, 95, 109, 111, 100, 117, 108, 101, 9, 52, 95, 102, 114, 111, 122, 101, 110, 95, 105, 109, 112, 111, 114, 116, 108, 105, 98, 46, 66, 117, 105, 108, 116, 105, 110, 73, 109, 112, 111, 114, 116, 101, 114, 46, 101, 120, 101, 99, 95, 109, 111, 100, 117, 108, 101, 35, 111, 112, 97, 113, 117, 101, 6, 196, 8, 103, 101, 116, 95, 99, 111, 100, 101, 9, 49, 95, 102, 114, 111, 122, 101, 110, 95, 105, 109, 112, 111, 114, 116, 108, 105, 98, 46, 66, 117, 105, 108, 116, 105, 110, 73, 109, 112, 111, 114, 116, 101, 114, 46, 103, 101, 116, 95, 99, 111, 100, 101, 35, 111, 112, 97, 113, 117, 101, 6, 197, 10, 103, 101, 116, 95, 115, 111, 117, 114, 99, 101, 9, 51, 95, 102, 114, 111, 122, 101, 110, 95, 105, 109, 112, 111, 114, 116, 108, 105, 98, 46, 66, 117, 105, 108, 116, 105, 110, 73, 109, 112, 111, 114, 116, 101, 114, 46, 103, 101, 116, 95, 115, 111, 117, 114, 99, 101, 35, 111, 112, 97, 113, 117, 101, 6, 198, 10, 105, 115, 95, 112, 97, 99, 107, 97, 103, 101, 9, 51, 95, 102, 114, 111, 122, 101, 110, 95, 105, 109, 112, 111, 114, 116, 108, 105, 98, 46, 66, 117, 105, 108, 116, 105, 110, 73, 109, 112, 111, 114, 116, 101, 114, 46, 105, 115, 95, 112, 97, 99, 107, 97, 103, 101, 35, 111, 112, 97, 113, 117, 101, 6, 199, 11, 108, 111, 97, 100, 95, 109, 111, 100, 117, 108, 101, 9, 52, 95, 102, 114, 111, 122, 101, 110, 95, 105, 109, 112, 111, 114, 116, 108, 105, 98, 46, 66, 117, 105, 108, 116, 105, 110, 73, 109, 112, 111, 114, 116, 101, 114, 46, 108, 111, 97, 100, 95, 109, 111, 100, 117, 108, 101, 35, 111, 112, 97, 113, 117, 101, 6, 200, 21, 95, 95, 115, 116, 97, 116, 105, 99, 95, 97, 116, 116, 114, 105, 98, 117, 116, 101, 115, 95, 95, 4, 0, 0, 15, 6, 202, 8, 95, 95, 100, 105, 99, 116, 95, 95, 4, 0, 0, 16, 6, 204, 11, 95, 95, 119, 101, 97, 107, 114, 101, 102, 95, 95, 4, 0, 0, 17]⟩ : PySem.Str)) 0, .bool true, .bool true, .str (hs "") 205, .int (21) 0, .str ((⟨#[6, 227, 10, 95, 95, 109, 111, 100, 117, 108, 101, 95, 95, 6, 217, 17, 95, 102, 114, 111, 122, 101, 110, 95, 105, 109, 112, 111, 114, 116, 108, 105, 98, 6, 228, 15, 95, 95, 102, 105, 114, 115, 116, 108, 105, 110, 101, 110, 111, 95, 95, 4, 218, 0, 562, 6, 229, 7, 95, 95, 100, 111, 99, 95, 95, 9, 47, 95, 102, 114, 111, 122, 101, 110, 95, 105, 109, 112, 111, 114, 116, 108, 105, 98, 46, 77, 111, 100, 117, 108, 101, 83, 112, 101, 99, 46, 95, 95, 100, 111, 99, 95, 95, 58, 115, 116, 114, 35, 111, 112, 97, 113, 117, 101, 6, 230, 8, 95, 95, 105, 110, 105, 116, 95, 95, 9, 44, 95, 102, 114, 111, 122, 101, 110, 95, 105, 109, 112, 111, 114, 116, 108, 105, 98, 46, 77, 111, 100, 117, 108, 101, 83, 112, 101, 99, 46, 95, 95, 105, 110, 105, 116, 95, 95, 35, 111, 112, 97, 113, 117, 101, 6, 231, 8, 95, 95, 114, 101, 112, 114, 95, 95, 9, 44, 95, 102, 114, 111, 122, 101, 110, 95, 105, 109, 112, 111, 114, 116, 108, 105, 98, 46, 77, 111, 100, 117, 108, 101, 83, 112, 101, 99, 46, 95, 95, 114, 101, 112, 114, 95, 95, 35, 111, 112, 97, 113, 117, 101, 6, 232, 6, 95, 95, 101, 113, 95, 95, 9, 42, 95, 102, 114, 111, 122, 101, 110, 95, 105, 109, 112, 111, 114, 116, 108, 105, 98, 46, 77, 111, 100, 117, 108, 101, 83, 112, 101, 99, 46, 95, 95, 101, 113, 95, 95, 35, 111, 112, 97, 113, 117, 101, 6, 233, 6, 99, 97, 99, 104, 101, 100, 9, 42, 95, 102, 114, 111, 122, 101, 110, 95, 105, 109, 112, 111, 114, 116, 108, 105, 98, 46, 77, 111, 100, 117, 108, 101, 83, 112, 101, 99, 46, 99, 97, 99, 104, 101, 100, 35, 111, 112, 97, 113, 117, 101, 6, 234, 6, 112, 97, 114, 101, 110, 116, 9, 42, 95, 102, 114, 111, 122, 101, 110, 95, 105, 109, 112, 111, 114, 116, 108, 105, 98, 46, 77, 111, 100, 117, 108, 101, 83, 112, 101, 99, 46, 112, 97, 114, 101, 110, 116, 35, 111, 112, 97, 113, 117, 101, 6, 235, 12, 104, 97, 115, 95, 108, 111, 99, 97, 116, 105, 111, 110, 9, 48, 95, 102, 114, 111, 122, 101, 110, 95, 105, 109, 112, 111, 114, 116, 108, 105, 98, 46, 77, 111, 100, 117, 108, 101, 83, 112, 101, 99, 46, 104, 97, 115, 95, 108, 111, 99, 97, 116, 105, 111, 110, 35, 111, 112, 97, 113, 117, 101, 6, 236, 21, 95, 95, 115, 116, 97, 116, 105, 99, 95, 97, 116, 116, 114, 105, 98, 117, 116, 101, 115, 95, 95, 4, 0, 0, 23, 6, 238, 8, 95, 95, 100, 105, 99, 116, 95, 95, 4, 0, 0, 24, 6, 240, 11, 95, 95, 119, 101, 97, 107, 114, 101, 102, 95, 95, 4, 0, 0, 25, 6, 241, 8, 95, 95, 104, 97, 115, 104, 95, 95, 0]⟩ : PySem.Str)) 0, .bool true, .bool true, .str (hs "") 242] 1, #[]⟩
noncomputable def ho19 (P : Params) : Obj := ⟨.type "list", none, .seq #[] 0, #[]⟩
noncomputable def ho20 (P : Params) : Obj := ⟨.type "dict", none, .dict #[hk P "name" 208 (.str (hs "_sre") 207), hk P "loader" 209 (.ref 14), hk P "origin" 210 (.str (hs "built-in") 184), hk P "loader_state" 211 (.none), hk P "submodule_search_locations" 212 (.none), hk P "_uninitialized_submodules" 213 (.ref 19), hk P "_set_fileattr" 214 (.bool false), hk P "_cached" 215 (.none), hk P "_initializing" 243 (.bool false)] 9, #[]⟩
noncomputable def ho21 (P : Params) : Obj := ⟨.type "dict", none, .dict #[hk P "__module__" 227 (.str (hs "_frozen_importlib") 217), hk P "__firstlineno__" 228 (.int (562) 218), hk P "__doc__" 229 (.builtin "_frozen_importlib.ModuleSpec.__doc__:str#opaque"), hk P "__init__" 230 (.builtin "_frozen_importlib.ModuleSpec.__init__#opaque"), hk P "__repr__" 231 (.builtin "_frozen_importlib.ModuleSpec.__repr__#opaque"), hk P "__eq__" 232 (.builtin "_frozen_importlib.ModuleSpec.__eq__#opaque"), hk P "cached" 233 (.builtin "_frozen_importlib.ModuleSpec.cached#opaque"), hk P "parent" 234 (.builtin "_frozen_importlib.ModuleSpec.parent#opaque"), hk P "has_location" 235 (.builtin "_frozen_importlib.ModuleSpec.has_location#opaque"), hk P "__static_attributes__" 236 (.ref 23), hk P "__dict__" 238 (.ref 24), hk P "__weakref__" 240 (.ref 25), hk P "__hash__" 241 (.none)] 13, #[]⟩
noncomputable def ho22 (P : Params) : Obj := ⟨.type "type", none, .cls ⟨hs "ModuleSpec", [.type "object"], [.ref 22, .type "object"], 21, hs "ModuleSpec", true, [], [], false, none, false⟩, #[]⟩
noncomputable def ho23 (P : Params) : Obj := ⟨.type "tuple", none, .seq #[.str (hs "_cached") 219, .str (hs "_set_fileattr") 220, .str (hs "_uninitialized_submodules") 221, .str (hs "loader") 222, .str (hs "loader_state") 223, .str (hs "name") 224, .str (hs "origin") 225, .str (hs "submodule_search_locations") 226] 0, #[]⟩
noncomputable def ho24 (P : Params) : Obj := ⟨.type "getset_descriptor", none, .fields #[.str (hs "__dict__") 237, .ref 22, .builtin "function.__dict__", .builtin "function.__dict__#set"], #[]⟩
noncomputable def ho25 (P : Params) : Obj := ⟨.type "getset_descriptor", none, .fields #[.str (hs "__weakref__") 239, .ref 22, .builtin "ExceptionGroup.__weakref__", .none], #[]⟩
noncomputable def ho26 (P : Params) : Obj := ⟨.ref 22, (some 20), .plain, #[]⟩
noncomputable def ho27 (P : Params) : Obj := ⟨.none, none, .seq #[.int (11) 0, .str ((⟨#[6, 247, 8, 95, 95, 110, 97, 109, 101, 95, 95, 6, 246, 4, 95, 115, 114, 101, 6, 248, 7, 95, 95, 100, 111, 99, 95, 95, 0, 6, 250, 11, 95, 95, 112, 97, 99, 107, 97, 103, 101, 95, 95, 6, 249, 0, 6, 251, 10, 95, 95, 108, 111, 97, 100, 101, 114, 95, 95, 4, 0, 0, 14, 6, 252, 8, 95, 95, 115, 112, 101, 99, 95, 95, 4, 0, 0, 26, 6, 253, 7, 99, 111, 109, 112, 105, 108, 101, 9, 12, 95, 115, 114, 101, 46, 99, 111, 109, 112, 105, 108, 101, 6, 254, 8, 116, 101, 109, 112, 108, 97, 116, 101, 9, 13, 95, 115, 114, 101, 46, 116, 101, 109, 112, 108, 97, 116, 101, 6, 255, 11, 103, 101, 116, 99, 111, 100, 101, 115, 105, 122, 101, 9, 16, 95, 115, 114, 101, 46, 103, 101, 116, 99, 111, 100, 101, 115, 105, 122, 101, 6, 256, 13, 97, 115, 99, 105, 105, 95, 105, 115, 99, 97, 115, 101, 100, 9, 18, 95, 115, 114, 101, 46, 97, 115, 99, 105, 105, 95, 105, 115, 99, 97, 115, 101, 100, 6, 257, 15, 117, 110, 105, 99, 111, 100, 101, 95, 105, 115, 99, 97, 115, 101, 100, 9, 20, 95, 115, 114, 101, 46, 117, 110, 105, 99, 111, 100, 101, 95, 105, 115, 99, 97, 115, 101, 100, 6, 258, 13, 97, 115, 99, 105, 105, 95, 116, 111, 108, 111, 119, 101, 114, 9, 18, 95, 115, 114, 101, 46, 97, 115, 99, 105, 105, 95, 116, 111, 108, 111, 119, 101, 114, 6, 259, 15, 117, 110, 105, 99, 111, 100, 101, 95, 116, 111, 108, 111, 119, 101, 114, 9, 20, 95, 115, 114, 101, 46, 117, 110, 105, 99, 111, 100, 101, 95, 116, 111, 108, 111, 119, 101, 114, 6, 261, 5, 77, 65, 71, 73, 67, 4, 260, 0, 20230612, 6, 263, 8, 67, 79, 68, 69, 83, 73, 90, 69, 4, 262, 0, 4, 6, 265, 9, 77, 65, 88, 82, 69, 80, 69, 65, 84, 4, 264, 0, 4294967295, 6, 267, 9, 77, 65, 88, 71, 82, 79, 85, 80, 83, 4, 266, 0, 1073741823, 6, 269, 9, 99, 111, 112, 121, 114, 105, 103, 104, 116, 6, 268, 53, 32, 83, 82, 69, 32, 50, 46, 50, 46, 50, 32, 67, 111, 112, 121, 114, 105, 103, 104, 116, 32, 40, 99, 41, 32, 49, 57, 57, 55, 45, 50, 48, 48, 50, 32, 98, 121, 32, 83, 101, 99, 114, 101, 116, 32, 76, 97, 98, 115, 32, 65, 66, 32]⟩ : PySem.Str)) 0, .bool true, .bool false, .str (hs "_sre") 271] 0, #[]⟩
noncomputable def hp0 (P : Params) : Heap := ⟨Array.mk [boot_o_0 P, ho1 P, ho2 P, ho3 P, boot_o_4 P, boot_o_5 P, boot_o_6 P, boot_o_7 P, boot_o_8 P, boot_o_9 P, boot_o_10 P, ho11 P, ho12 P, ho13 P, ho14 P, ho15 P, ho16 P, ho17 P, ho18 P, ho19 P, ho20 P, ho21 P, ho22 P, ho23 P, ho24 P, ho25 P, ho26 P, ho27 P], { }⟩
noncomputable def ho28 (P : Params) : Obj := ⟨.type "tuple", none, .seq #[] 0, #[]⟩
noncomputable def ho29 (P : Params) : Obj := ⟨.none, none, .fields #[], #[]⟩
noncomputable def ho30 (P : Params) : Obj := ⟨.type "code", none, .fields #[.str (hs "<module>") 277, .str (hs "<module>") 278, .str (hs "/claim/cut.py") 279, .int (1) 0, .int (0) 0, .int (0) 0, .int (0) 0, .int (0) 0, .ref 28, .bool false, .int (276) 0, .ref 29, .none, .none, .none, .none, .int (280) 0, .int (1) 0, .str (hs "/claim/cut.py") 281], #[]⟩
noncomputable def ho31 (P : Params) : Obj := ⟨.type "frame", none, .plain, #[some (.ref 30), some (.ref 3), some (.ref 3), none, some (.str (hs "__main__") 164), none, some (.ref 0)]⟩
noncomputable def hp_pre (P : Params) : Heap := ⟨Array.mk [boot_o_0 P, ho1 P, ho2 P, ho3 P, boot_o_4 P, boot_o_5 P, boot_o_6 P, boot_o_7 P, boot_o_8 P, boot_o_9 P, boot_o_10 P, ho11 P, ho12 P, ho13 P, ho14 P, ho15 P, ho16 P, ho17 P, ho18 P, ho19 P, ho20 P, ho21 P, ho22 P, ho23 P, ho24 P, ho25 P, ho26 P, ho27 P, ho28 P, ho29 P, ho30 P, ho31 P], { }⟩
noncomputable def ho3x (P : Params) : Obj := ⟨.type "dict", none, .dict #[hk P "__name__" 165 (.str (hs "os") 289), hk P "__doc__" 166 (.none), hk P "__package__" 167 (.none), hk P "__loader__" 168 (.builtin "__main__.__loader__#opaque"), hk P "__spec__" 169 (.none), hk P "__annotations__" 170 (.ref 6), hk P "__builtins__" 171 (.ref 4), hk P "__file__" 173 (.str (hs "/claim/cut.py") 172), hk P "__cached__" 174 (.none), hk P "_sre" 275 (.ref 12), hk P "_wall" 288 (.ref 38), hk P "_plain_name" 299 (.ref 45)] 12, #[]⟩
noncomputable def ho29x (P : Params) : Obj := ⟨.none, none, .fields #[.int (2) 0, .int (0) 0, .ref 37, .int (6) 0, .int (0) 0, .ref 44], #[]⟩
noncomputable def ho32 (P : Params) : Obj := ⟨.type "tuple", none, .seq #[] 0, #[]⟩
noncomputable def ho33 (P : Params) : Obj := ⟨.none, none, .fields #[], #[]⟩
noncomputable def ho34 (P : Params) : Obj := ⟨.type "tuple", none, .seq #[.str (hs "k") 285] 0, #[]⟩
noncomputable def ho35 (P : Params) : Obj := ⟨.type "tuple", none, .seq #[] 0, #[]⟩
noncomputable def ho36 (P : Params) : Obj := ⟨.none, none, .func ⟨hs "_wall", hs "_wall", hPs (hAt hW [1]), .stmts (hBd (hAt hW [1])), hSc (hAt hW [1]), 0, [], .none, .none, .none, .none, none, .none, .none, 0⟩, #[]⟩
noncomputable def ho37 (P : Params) : Obj := ⟨.type "code", none, .fields #[.str (hs "_wall") 282, .str (hs "_wall") 283, .str (hs "/claim/cut.py") 284, .int (2) 0, .int (1) 0, .int (0) 0, .int (0) 0, .int (3) 0, .ref 32, .bool true, .int (276) 0, .ref 33, .none, .ref 34, .ref 35, .ref 36, .int (286) 0, .int (2) 0, .str (hs "/claim/cut.py") 287], #[]⟩
noncomputable def ho38 (P : Params) : Obj := ⟨.type "function", none, .func ⟨hs "_wall", hs "_wall", hPs (hAt hW [1]), .stmts (hBd (hAt hW [1])), hSc (hAt hW [1]), 3, [], .none, .none, .none, .str (hs "__main__") 164, none, .ref 37, .none, 0⟩, #[]⟩
noncomputable def ho39 (P : Params) : Obj := ⟨.type "tuple", none, .seq #[] 0, #[]⟩
noncomputable def ho40 (P : Params) : Obj := ⟨.none, none, .fields #[], #[]⟩
noncomputable def ho41 (P : Params) : Obj := ⟨.type "tuple", none, .seq #[.str (hs "x") 294, .str (hs "what") 295, .str (hs "kind") 296] 0, #[]⟩
noncomputable def ho42 (P : Params) : Obj := ⟨.type "tuple", none, .seq #[] 0, #[]⟩
noncomputable def ho43 (P : Params) : Obj := ⟨.none, none, .func ⟨hs "_plain_name", hs "_plain_name", hPs (hAt hW [3]), .stmts (hBd (hAt hW [3])), hSc (hAt hW [3]), 0, [], .none, .none, .none, .none, none, .none, .none, 0⟩, #[]⟩
noncomputable def ho44 (P : Params) : Obj := ⟨.type "code", none, .fields #[.str (hs "_plain_name") 291, .str (hs "_plain_name") 292, .str (hs "/claim/cut.py") 293, .int (6) 0, .int (2) 0, .int (0) 0, .int (0) 0, .int (3) 0, .ref 39, .bool true, .int (276) 0, .ref 40, .none, .ref 41, .ref 42, .ref 43, .int (297) 0, .int (6) 0, .str (hs "/claim/cut.py") 298], #[]⟩
noncomputable def ho45 (P : Params) : Obj := ⟨.type "function", none, .func ⟨hs "_plain_name", hs "_plain_name", hPs (hAt hW [3]), .stmts (hBd (hAt hW [3])), hSc (hAt hW [3]), 3, [], .none, .none, .none, .str (hs "os") 289, none, .ref 44, .none, 0⟩, #[]⟩
noncomputable def hp3 (P : Params) : Heap := ⟨Array.mk [boot_o_0 P, ho1 P, ho2 P, ho3x P, boot_o_4 P, boot_o_5 P, boot_o_6 P, boot_o_7 P, boot_o_8 P, boot_o_9 P, boot_o_10 P, ho11 P, ho12 P, ho13 P, ho14 P, ho15 P, ho16 P, ho17 P, ho18 P, ho19 P, ho20 P, ho21 P, ho22 P, ho23 P, ho24 P, ho25 P, ho26 P, ho27 P, ho28 P, ho29x P, ho30 P, ho31 P, ho32 P, ho33 P, ho34 P, ho35 P, ho36 P, ho37 P, ho38 P, ho39 P, ho40 P, ho41 P, ho42 P, ho43 P, ho44 P, ho45 P], { }⟩
noncomputable def ho3xx (P : Params) : Obj := ⟨.type "dict", none, .dict #[hk P "__name__" 165 (.str (hs "abc") 300), hk P "__doc__" 166 (.none), hk P "__package__" 167 (.none), hk P "__loader__" 168 (.builtin "__main__.__loader__#opaque"), hk P "__spec__" 169 (.none), hk P "__annotations__" 170 (.ref 6), hk P "__builtins__" 171 (.ref 4), hk P "__file__" 173 (.str (hs "/claim/cut.py") 172), hk P "__cached__" 174 (.none), hk P "_sre" 275 (.ref 12), hk P "_wall" 288 (.ref 38), hk P "_plain_name" 299 (.ref 45)] 12, #[]⟩
noncomputable def hp4 (P : Params) : Heap := ⟨Array.mk [boot_o_0 P, ho1 P, ho2 P, ho3xx P, boot_o_4 P, boot_o_5 P, boot_o_6 P, boot_o_7 P, boot_o_8 P, boot_o_9 P, boot_o_10 P, ho11 P, ho12 P, ho13 P, ho14 P, ho15 P, ho16 P, ho17 P, ho18 P, ho19 P, ho20 P, ho21 P, ho22 P, ho23 P, ho24 P, ho25 P, ho26 P, ho27 P, ho28 P, ho29x P, ho30 P, ho31 P, ho32 P, ho33 P, ho34 P, ho35 P, ho36 P, ho37 P, ho38 P, ho39 P, ho40 P, ho41 P, ho42 P, ho43 P, ho44 P, ho45 P], { }⟩
noncomputable def ho3xxx (P : Params) : Obj := ⟨.type "dict", none, .dict #[hk P "__name__" 165 (.str (hs "law_dn0069_10") 704), hk P "__doc__" 166 (.none), hk P "__package__" 167 (.none), hk P "__loader__" 168 (.builtin "__main__.__loader__#opaque"), hk P "__spec__" 169 (.none), hk P "__annotations__" 170 (.ref 6), hk P "__builtins__" 171 (.ref 4), hk P "__file__" 173 (.str (hs "/claim/cut.py") 172), hk P "__cached__" 174 (.none), hk P "_sre" 275 (.ref 12), hk P "_wall" 288 (.ref 38), hk P "_plain_name" 299 (.ref 45), hk P "ABCMeta" 325 (.ref 62), hk P "_ABCLike" 368 (.ref 95), hk P "_abc_plain_meta" 375 (.ref 104), hk P "fspath" 387 (.ref 111), hk P "commonprefix" 400 (.ref 118), hk P "_check_arg_types" 411 (.ref 125), hk P "_get_sep" 420 (.ref 132), hk P "join" 431 (.ref 139), hk P "splitroot" 440 (.ref 146), hk P "dirname" 450 (.ref 153), hk P "normpath" 465 (.ref 160), hk P "abspath" 472 (.ref 167), hk P "relpath" 489 (.ref 175), hk P "_twin_re_1" 527 (.ref 180), hk P "_special_chars_map" 675 (.ref 182), hk P "escape" 682 (.ref 192), hk P "_translate" 703 (.ref 199), hk P "_law_one" 719 (.ref 206), hk P "_law_takes" 725 (.ref 211), hk P "_law_dressed" 733 (.ref 218), hk P "_law_meant" 739 (.ref 223), hk P "law" 745 (.ref 228)] 34, #[]⟩
noncomputable def ho29xx (P : Params) : Obj := ⟨.none, none, .fields #[.int (2) 0, .int (0) 0, .ref 37, .int (6) 0, .int (0) 0, .ref 44, .int (12) 0, .int (0) 0, .ref 51, .int (17) 0, .int (0) 0, .ref 70, .int (32) 0, .int (0) 0, .ref 103, .int (36) 0, .int (0) 0, .ref 110, .int (53) 0, .int (0) 0, .ref 117, .int (64) 0, .int (0) 0, .ref 124, .int (76) 0, .int (0) 0, .ref 131, .int (81) 0, .int (0) 0, .ref 138, .int (98) 0, .int (0) 0, .ref 145, .int (112) 0, .int (0) 0, .ref 152, .int (120) 0, .int (0) 0, .ref 159, .int (145) 0, .int (0) 0, .ref 166, .int (153) 0, .int (0) 0, .ref 174, .int (185) 0, .int (0) 0, .ref 191, .int (192) 0, .int (0) 0, .ref 198, .int (255) 0, .int (0) 0, .ref 205, .int (279) 0, .int (0) 0, .ref 210, .int (287) 0, .int (0) 0, .ref 217, .int (290) 0, .int (0) 0, .ref 222, .int (299) 0, .int (0) 0, .ref 227], #[]⟩
noncomputable def ho46 (P : Params) : Obj := ⟨.type "tuple", none, .seq #[.type "type"] 0, #[]⟩
noncomputable def ho47 (P : Params) : Obj := ⟨.type "builtin_function_or_method", none, .fields #[.builtin "type.__prepare__", .type "type"], #[]⟩
noncomputable def ho48 (P : Params) : Obj := ⟨.type "dict", none, .dict #[hk P "__module__" 309 (.str (hs "abc") 300), hk P "__qualname__" 311 (.str (hs "ABCMeta") 310), hk P "__firstlineno__" 313 (.int (12) 312), hk P "register" 321 (.ref 59), hk P "__static_attributes__" 322 (.ref 60)] 5, #[]⟩
noncomputable def ho49 (P : Params) : Obj := ⟨.type "tuple", none, .seq #[] 0, #[]⟩
noncomputable def ho50 (P : Params) : Obj := ⟨.none, none, .fields #[.int (14) 0, .int (4) 0, .ref 58], #[]⟩
noncomputable def ho51 (P : Params) : Obj := ⟨.type "code", none, .fields #[.str (hs "ABCMeta") 304, .str (hs "ABCMeta") 305, .str (hs "/claim/cut.py") 306, .int (12) 0, .int (0) 0, .int (0) 0, .int (0) 0, .int (0) 0, .ref 49, .bool false, .int (276) 0, .ref 50, .none, .none, .none, .none, .int (307) 0, .int (12) 0, .str (hs "/claim/cut.py") 308], #[]⟩
noncomputable def ho52 (P : Params) : Obj := ⟨.type "frame", none, .plain, #[some (.ref 51), some (.ref 3), some (.ref 48), none, some (.str (hs "abc") 300), none, some (.ref 0)]⟩
noncomputable def ho53 (P : Params) : Obj := ⟨.type "tuple", none, .seq #[] 0, #[]⟩
noncomputable def ho54 (P : Params) : Obj := ⟨.none, none, .fields #[], #[]⟩
noncomputable def ho55 (P : Params) : Obj := ⟨.type "tuple", none, .seq #[.str (hs "cls") 317, .str (hs "subclass") 318] 0, #[]⟩
noncomputable def ho56 (P : Params) : Obj := ⟨.type "tuple", none, .seq #[] 0, #[]⟩
noncomputable def ho57 (P : Params) : Obj := ⟨.none, none, .func ⟨hs "register", hs "ABCMeta.register", hPs (hAt hW [5, 0]), .stmts (hBd (hAt hW [5, 0])), hSc (hAt hW [5, 0]), 0, [], .none, .none, .none, .none, none, .none, .none, 0⟩, #[]⟩
noncomputable def ho58 (P : Params) : Obj := ⟨.type "code", none, .fields #[.str (hs "register") 314, .str (hs "ABCMeta.register") 315, .str (hs "/claim/cut.py") 316, .int (14) 0, .int (2) 0, .int (0) 0, .int (0) 0, .int (3) 0, .ref 53, .bool true, .int (276) 0, .ref 54, .none, .ref 55, .ref 56, .ref 57, .int (319) 0, .int (14) 0, .str (hs "/claim/cut.py") 320], #[]⟩
noncomputable def ho59 (P : Params) : Obj := ⟨.type "function", none, .func ⟨hs "register", hs "ABCMeta.register", hPs (hAt hW [5, 0]), .stmts (hBd (hAt hW [5, 0])), hSc (hAt hW [5, 0]), 3, [], .none, .none, .none, .str (hs "abc") 300, none, .ref 58, .none, 0⟩, #[]⟩
noncomputable def ho60 (P : Params) : Obj := ⟨.type "tuple", none, .seq #[] 0, #[]⟩
noncomputable def ho61 (P : Params) : Obj := ⟨.type "dict", none, .dict #[hk P "__module__" 309 (.str (hs "abc") 300), hk P "__firstlineno__" 313 (.int (12) 312), hk P "register" 321 (.ref 59), hk P "__static_attributes__" 322 (.ref 60), hk P "__doc__" 323 (.none)] 2, #[]⟩
noncomputable def ho62 (P : Params) : Obj := ⟨.type "type", none, .cls ⟨hs "ABCMeta", [.type "type"], [.ref 62, .type "type", .type "object"], 61, hs "ABCMeta", true, [], [.ref 95], false, none, false⟩, #[some (.ref 46), none, some (.str (hs "ABCMeta") 302), some (.str (hs "ABCMeta") 310), some (.builtin "type.__new__"), some (.bool true)]⟩
noncomputable def ho63 (P : Params) : Obj := ⟨.type "super", none, .fields #[.ref 62, .ref 62, .ref 62], #[]⟩
noncomputable def ho64 (P : Params) : Obj := ⟨.type "builtin_function_or_method", none, .fields #[.builtin "object.__init_subclass__", .ref 62], #[]⟩
noncomputable def ho65 (P : Params) : Obj := ⟨.type "tuple", none, .seq #[.ref 62] 0, #[]⟩
noncomputable def ho66 (P : Params) : Obj := ⟨.type "builtin_function_or_method", none, .fields #[.builtin "type.__prepare__", .type "type"], #[]⟩
noncomputable def ho67 (P : Params) : Obj := ⟨.type "dict", none, .dict #[hk P "__module__" 335 (.str (hs "collections.abc") 326), hk P "__qualname__" 337 (.str (hs "_ABCLike") 336), hk P "__firstlineno__" 339 (.int (17) 338), hk P "__instancecheck__" 348 (.ref 78), hk P "__subclasscheck__" 356 (.ref 85), hk P "register" 364 (.ref 92), hk P "__static_attributes__" 365 (.ref 93)] 7, #[]⟩
noncomputable def ho68 (P : Params) : Obj := ⟨.type "tuple", none, .seq #[] 0, #[]⟩
noncomputable def ho69 (P : Params) : Obj := ⟨.none, none, .fields #[.int (19) 0, .int (4) 0, .ref 77, .int (25) 0, .int (4) 0, .ref 84, .int (30) 0, .int (4) 0, .ref 91], #[]⟩
noncomputable def ho70 (P : Params) : Obj := ⟨.type "code", none, .fields #[.str (hs "_ABCLike") 330, .str (hs "_ABCLike") 331, .str (hs "/claim/cut.py") 332, .int (17) 0, .int (0) 0, .int (0) 0, .int (0) 0, .int (0) 0, .ref 68, .bool false, .int (276) 0, .ref 69, .none, .none, .none, .none, .int (333) 0, .int (17) 0, .str (hs "/claim/cut.py") 334], #[]⟩
noncomputable def ho71 (P : Params) : Obj := ⟨.type "frame", none, .plain, #[some (.ref 70), some (.ref 3), some (.ref 67), none, some (.str (hs "collections.abc") 326), none, some (.ref 0)]⟩
noncomputable def ho72 (P : Params) : Obj := ⟨.type "tuple", none, .seq #[] 0, #[]⟩
noncomputable def ho73 (P : Params) : Obj := ⟨.none, none, .fields #[], #[]⟩
noncomputable def ho74 (P : Params) : Obj := ⟨.type "tuple", none, .seq #[.str (hs "cls") 343, .str (⟨#[105, 110, 115, 116, 97, 110, 99, 101]⟩) 344, .str (hs "C") 345] 0, #[]⟩
noncomputable def ho75 (P : Params) : Obj := ⟨.type "tuple", none, .seq #[] 0, #[]⟩
noncomputable def ho76 (P : Params) : Obj := ⟨.none, none, .func ⟨hs "__instancecheck__", hs "_ABCLike.__instancecheck__", hPs (hAt hW [7, 0]), .stmts (hBd (hAt hW [7, 0])), hSc (hAt hW [7, 0]), 0, [], .none, .none, .none, .none, none, .none, .none, 0⟩, #[]⟩
noncomputable def ho77 (P : Params) : Obj := ⟨.type "code", none, .fields #[.str (hs "__instancecheck__") 340, .str (hs "_ABCLike.__instancecheck__") 341, .str (hs "/claim/cut.py") 342, .int (19) 0, .int (2) 0, .int (0) 0, .int (0) 0, .int (3) 0, .ref 72, .bool true, .int (276) 0, .ref 73, .none, .ref 74, .ref 75, .ref 76, .int (346) 0, .int (19) 0, .str (hs "/claim/cut.py") 347], #[]⟩
noncomputable def ho78 (P : Params) : Obj := ⟨.type "function", none, .func ⟨hs "__instancecheck__", hs "_ABCLike.__instancecheck__", hPs (hAt hW [7, 0]), .stmts (hBd (hAt hW [7, 0])), hSc (hAt hW [7, 0]), 3, [], .none, .none, .none, .str (hs "collections.abc") 326, none, .ref 77, .none, 0⟩, #[]⟩
noncomputable def ho79 (P : Params) : Obj := ⟨.type "tuple", none, .seq #[] 0, #[]⟩
noncomputable def ho80 (P : Params) : Obj := ⟨.none, none, .fields #[], #[]⟩
noncomputable def ho81 (P : Params) : Obj := ⟨.type "tuple", none, .seq #[.str (hs "cls") 352, .str (hs "C") 353] 0, #[]⟩
noncomputable def ho82 (P : Params) : Obj := ⟨.type "tuple", none, .seq #[] 0, #[]⟩
noncomputable def ho83 (P : Params) : Obj := ⟨.none, none, .func ⟨hs "__subclasscheck__", hs "_ABCLike.__subclasscheck__", hPs (hAt hW [7, 1]), .stmts (hBd (hAt hW [7, 1])), hSc (hAt hW [7, 1]), 0, [], .none, .none, .none, .none, none, .none, .none, 0⟩, #[]⟩
noncomputable def ho84 (P : Params) : Obj := ⟨.type "code", none, .fields #[.str (hs "__subclasscheck__") 349, .str (hs "_ABCLike.__subclasscheck__") 350, .str (hs "/claim/cut.py") 351, .int (25) 0, .int (2) 0, .int (0) 0, .int (0) 0, .int (3) 0, .ref 79, .bool true, .int (276) 0, .ref 80, .none, .ref 81, .ref 82, .ref 83, .int (354) 0, .int (25) 0, .str (hs "/claim/cut.py") 355], #[]⟩
noncomputable def ho85 (P : Params) : Obj := ⟨.type "function", none, .func ⟨hs "__subclasscheck__", hs "_ABCLike.__subclasscheck__", hPs (hAt hW [7, 1]), .stmts (hBd (hAt hW [7, 1])), hSc (hAt hW [7, 1]), 3, [], .none, .none, .none, .str (hs "collections.abc") 326, none, .ref 84, .none, 0⟩, #[]⟩
noncomputable def ho86 (P : Params) : Obj := ⟨.type "tuple", none, .seq #[] 0, #[]⟩
noncomputable def ho87 (P : Params) : Obj := ⟨.none, none, .fields #[], #[]⟩
noncomputable def ho88 (P : Params) : Obj := ⟨.type "tuple", none, .seq #[.str (hs "cls") 360, .str (hs "subclass") 361] 0, #[]⟩
noncomputable def ho89 (P : Params) : Obj := ⟨.type "tuple", none, .seq #[] 0, #[]⟩
noncomputable def ho90 (P : Params) : Obj := ⟨.none, none, .func ⟨hs "register", hs "_ABCLike.register", hPs (hAt hW [7, 2]), .stmts (hBd (hAt hW [7, 2])), hSc (hAt hW [7, 2]), 0, [], .none, .none, .none, .none, none, .none, .none, 0⟩, #[]⟩
noncomputable def ho91 (P : Params) : Obj := ⟨.type "code", none, .fields #[.str (hs "register") 357, .str (hs "_ABCLike.register") 358, .str (hs "/claim/cut.py") 359, .int (30) 0, .int (2) 0, .int (0) 0, .int (0) 0, .int (3) 0, .ref 86, .bool true, .int (276) 0, .ref 87, .none, .ref 88, .ref 89, .ref 90, .int (362) 0, .int (30) 0, .str (hs "/claim/cut.py") 363], #[]⟩
noncomputable def ho92 (P : Params) : Obj := ⟨.type "function", none, .func ⟨hs "register", hs "_ABCLike.register", hPs (hAt hW [7, 2]), .stmts (hBd (hAt hW [7, 2])), hSc (hAt hW [7, 2]), 3, [], .none, .none, .none, .str (hs "collections.abc") 326, none, .ref 91, .none, 0⟩, #[]⟩
noncomputable def ho93 (P : Params) : Obj := ⟨.type "tuple", none, .seq #[] 0, #[]⟩
noncomputable def ho94 (P : Params) : Obj := ⟨.type "dict", none, .dict #[hk P "__module__" 335 (.str (hs "collections.abc") 326), hk P "__firstlineno__" 339 (.int (17) 338), hk P "__instancecheck__" 348 (.ref 78), hk P "__subclasscheck__" 356 (.ref 85), hk P "register" 364 (.ref 92), hk P "__static_attributes__" 365 (.ref 93), hk P "__doc__" 366 (.none)] 2, #[]⟩
noncomputable def ho95 (P : Params) : Obj := ⟨.type "type", none, .cls ⟨hs "_ABCLike", [.ref 62], [.ref 95, .ref 62, .type "type", .type "object"], 94, hs "_ABCLike", true, [], [], false, none, false⟩, #[some (.ref 65), none, some (.str (hs "_ABCLike") 328), some (.str (hs "_ABCLike") 336), some (.builtin "type.__new__"), some (.bool true)]⟩
noncomputable def ho96 (P : Params) : Obj := ⟨.type "super", none, .fields #[.ref 95, .ref 95, .ref 95], #[]⟩
noncomputable def ho97 (P : Params) : Obj := ⟨.type "builtin_function_or_method", none, .fields #[.builtin "object.__init_subclass__", .ref 95], #[]⟩
noncomputable def ho98 (P : Params) : Obj := ⟨.type "tuple", none, .seq #[] 0, #[]⟩
noncomputable def ho99 (P : Params) : Obj := ⟨.none, none, .fields #[], #[]⟩
noncomputable def ho100 (P : Params) : Obj := ⟨.type "tuple", none, .seq #[.str (hs "C") 372] 0, #[]⟩
noncomputable def ho101 (P : Params) : Obj := ⟨.type "tuple", none, .seq #[] 0, #[]⟩
noncomputable def ho102 (P : Params) : Obj := ⟨.none, none, .func ⟨hs "_abc_plain_meta", hs "_abc_plain_meta", hPs (hAt hW [8]), .stmts (hBd (hAt hW [8])), hSc (hAt hW [8]), 0, [], .none, .none, .none, .none, none, .none, .none, 0⟩, #[]⟩
noncomputable def ho103 (P : Params) : Obj := ⟨.type "code", none, .fields #[.str (hs "_abc_plain_meta") 369, .str (hs "_abc_plain_meta") 370, .str (hs "/claim/cut.py") 371, .int (32) 0, .int (1) 0, .int (0) 0, .int (0) 0, .int (3) 0, .ref 98, .bool true, .int (276) 0, .ref 99, .none, .ref 100, .ref 101, .ref 102, .int (373) 0, .int (32) 0, .str (hs "/claim/cut.py") 374], #[]⟩
noncomputable def ho104 (P : Params) : Obj := ⟨.type "function", none, .func ⟨hs "_abc_plain_meta", hs "_abc_plain_meta", hPs (hAt hW [8]), .stmts (hBd (hAt hW [8])), hSc (hAt hW [8]), 3, [], .none, .none, .none, .str (hs "collections.abc") 326, none, .ref 103, .none, 0⟩, #[]⟩
noncomputable def ho105 (P : Params) : Obj := ⟨.type "tuple", none, .seq #[] 0, #[]⟩
noncomputable def ho106 (P : Params) : Obj := ⟨.none, none, .fields #[], #[]⟩
noncomputable def ho107 (P : Params) : Obj := ⟨.type "tuple", none, .seq #[.str (hs "path") 381, .str (hs "kind") 382, .str (hs "hook") 383, .str (hs "given") 384] 0, #[]⟩
noncomputable def ho108 (P : Params) : Obj := ⟨.type "tuple", none, .seq #[] 0, #[]⟩
noncomputable def ho109 (P : Params) : Obj := ⟨.none, none, .func ⟨hs "fspath", hs "fspath", hPs (hAt hW [10]), .stmts (hBd (hAt hW [10])), hSc (hAt hW [10]), 0, [], .none, .none, .none, .none, none, .none, .none, 0⟩, #[]⟩
noncomputable def ho110 (P : Params) : Obj := ⟨.type "code", none, .fields #[.str (hs "fspath") 378, .str (hs "fspath") 379, .str (hs "/claim/cut.py") 380, .int (36) 0, .int (1) 0, .int (0) 0, .int (0) 0, .int (3) 0, .ref 105, .bool true, .int (276) 0, .ref 106, .none, .ref 107, .ref 108, .ref 109, .int (385) 0, .int (36) 0, .str (hs "/claim/cut.py") 386], #[]⟩
noncomputable def ho111 (P : Params) : Obj := ⟨.type "function", none, .func ⟨hs "fspath", hs "fspath", hPs (hAt hW [10]), .stmts (hBd (hAt hW [10])), hSc (hAt hW [10]), 3, [], .none, .none, .none, .str (hs "os") 376, none, .ref 110, .none, 0⟩, #[]⟩
noncomputable def ho112 (P : Params) : Obj := ⟨.type "tuple", none, .seq #[] 0, #[]⟩
noncomputable def ho113 (P : Params) : Obj := ⟨.none, none, .fields #[], #[]⟩
noncomputable def ho114 (P : Params) : Obj := ⟨.type "tuple", none, .seq #[.str (hs "m") 393, .str (hs "s1") 394, .str (hs "s2") 395, .str (hs "i") 396, .str (hs "c") 397] 0, #[]⟩
noncomputable def ho115 (P : Params) : Obj := ⟨.type "tuple", none, .seq #[] 0, #[]⟩
noncomputable def ho116 (P : Params) : Obj := ⟨.none, none, .func ⟨hs "commonprefix", hs "commonprefix", hPs (hAt hW [12]), .stmts (hBd (hAt hW [12])), hSc (hAt hW [12]), 0, [], .none, .none, .none, .none, none, .none, .none, 0⟩, #[]⟩
noncomputable def ho117 (P : Params) : Obj := ⟨.type "code", none, .fields #[.str (hs "commonprefix") 390, .str (hs "commonprefix") 391, .str (hs "/claim/cut.py") 392, .int (53) 0, .int (1) 0, .int (0) 0, .int (0) 0, .int (3) 0, .ref 112, .bool true, .int (276) 0, .ref 113, .none, .ref 114, .ref 115, .ref 116, .int (398) 0, .int (53) 0, .str (hs "/claim/cut.py") 399], #[]⟩
noncomputable def ho118 (P : Params) : Obj := ⟨.type "function", none, .func ⟨hs "commonprefix", hs "commonprefix", hPs (hAt hW [12]), .stmts (hBd (hAt hW [12])), hSc (hAt hW [12]), 3, [], .none, .none, .none, .str (hs "cpy313.genericpath") 388, none, .ref 117, .none, 0⟩, #[]⟩
noncomputable def ho119 (P : Params) : Obj := ⟨.type "tuple", none, .seq #[] 0, #[]⟩
noncomputable def ho120 (P : Params) : Obj := ⟨.none, none, .fields #[], #[]⟩
noncomputable def ho121 (P : Params) : Obj := ⟨.type "tuple", none, .seq #[.str (hs "funcname") 404, .str (hs "args") 405, .str (hs "hasstr") 406, .str (hs "hasbytes") 407, .str (hs "s") 408] 0, #[]⟩
noncomputable def ho122 (P : Params) : Obj := ⟨.type "tuple", none, .seq #[] 0, #[]⟩
noncomputable def ho123 (P : Params) : Obj := ⟨.none, none, .func ⟨hs "_check_arg_types", hs "_check_arg_types", hPs (hAt hW [13]), .stmts (hBd (hAt hW [13])), hSc (hAt hW [13]), 0, [], .none, .none, .none, .none, none, .none, .none, 0⟩, #[]⟩
noncomputable def ho124 (P : Params) : Obj := ⟨.type "code", none, .fields #[.str (hs "_check_arg_types") 401, .str (hs "_check_arg_types") 402, .str (hs "/claim/cut.py") 403, .int (64) 0, .int (1) 0, .int (0) 0, .int (0) 0, .int (7) 0, .ref 119, .bool true, .int (276) 0, .ref 120, .none, .ref 121, .ref 122, .ref 123, .int (409) 0, .int (64) 0, .str (hs "/claim/cut.py") 410], #[]⟩
noncomputable def ho125 (P : Params) : Obj := ⟨.type "function", none, .func ⟨hs "_check_arg_types", hs "_check_arg_types", hPs (hAt hW [13]), .stmts (hBd (hAt hW [13])), hSc (hAt hW [13]), 3, [], .none, .none, .none, .str (hs "cpy313.genericpath") 388, none, .ref 124, .none, 0⟩, #[]⟩
noncomputable def ho126 (P : Params) : Obj := ⟨.type "tuple", none, .seq #[] 0, #[]⟩
noncomputable def ho127 (P : Params) : Obj := ⟨.none, none, .fields #[], #[]⟩
noncomputable def ho128 (P : Params) : Obj := ⟨.type "tuple", none, .seq #[.str (hs "path") 417] 0, #[]⟩
noncomputable def ho129 (P : Params) : Obj := ⟨.type "tuple", none, .seq #[] 0, #[]⟩
noncomputable def ho130 (P : Params) : Obj := ⟨.none, none, .func ⟨hs "_get_sep", hs "_get_sep", hPs (hAt hW [15]), .stmts (hBd (hAt hW [15])), hSc (hAt hW [15]), 0, [], .none, .none, .none, .none, none, .none, .none, 0⟩, #[]⟩
noncomputable def ho131 (P : Params) : Obj := ⟨.type "code", none, .fields #[.str (hs "_get_sep") 414, .str (hs "_get_sep") 415, .str (hs "/claim/cut.py") 416, .int (76) 0, .int (1) 0, .int (0) 0, .int (0) 0, .int (3) 0, .ref 126, .bool true, .int (276) 0, .ref 127, .none, .ref 128, .ref 129, .ref 130, .int (418) 0, .int (76) 0, .str (hs "/claim/cut.py") 419], #[]⟩
noncomputable def ho132 (P : Params) : Obj := ⟨.type "function", none, .func ⟨hs "_get_sep", hs "_get_sep", hPs (hAt hW [15]), .stmts (hBd (hAt hW [15])), hSc (hAt hW [15]), 3, [], .none, .none, .none, .str (hs "cpy313.posixpath") 412, none, .ref 131, .none, 0⟩, #[]⟩
noncomputable def ho133 (P : Params) : Obj := ⟨.type "tuple", none, .seq #[] 0, #[]⟩
noncomputable def ho134 (P : Params) : Obj := ⟨.none, none, .fields #[], #[]⟩
noncomputable def ho135 (P : Params) : Obj := ⟨.type "tuple", none, .seq #[.str (hs "a") 424, .str (hs "p") 425, .str (hs "sep") 426, .str (hs "path") 427, .str (hs "b") 428] 0, #[]⟩
noncomputable def ho136 (P : Params) : Obj := ⟨.type "tuple", none, .seq #[] 0, #[]⟩
noncomputable def ho137 (P : Params) : Obj := ⟨.none, none, .func ⟨hs "join", hs "join", hPs (hAt hW [16]), .stmts (hBd (hAt hW [16])), hSc (hAt hW [16]), 0, [], .none, .none, .none, .none, none, .none, .none, 0⟩, #[]⟩
noncomputable def ho138 (P : Params) : Obj := ⟨.type "code", none, .fields #[.str (hs "join") 421, .str (hs "join") 422, .str (hs "/claim/cut.py") 423, .int (81) 0, .int (1) 0, .int (0) 0, .int (0) 0, .int (7) 0, .ref 133, .bool true, .int (276) 0, .ref 134, .none, .ref 135, .ref 136, .ref 137, .int (429) 0, .int (81) 0, .str (hs "/claim/cut.py") 430], #[]⟩
noncomputable def ho139 (P : Params) : Obj := ⟨.type "function", none, .func ⟨hs "join", hs "join", hPs (hAt hW [16]), .stmts (hBd (hAt hW [16])), hSc (hAt hW [16]), 3, [], .none, .none, .none, .str (hs "cpy313.posixpath") 412, none, .ref 138, .none, 0⟩, #[]⟩
noncomputable def ho140 (P : Params) : Obj := ⟨.type "tuple", none, .seq #[] 0, #[]⟩
noncomputable def ho141 (P : Params) : Obj := ⟨.none, none, .fields #[], #[]⟩
noncomputable def ho142 (P : Params) : Obj := ⟨.type "tuple", none, .seq #[.str (hs "p") 435, .str (hs "sep") 436, .str (hs "empty") 437] 0, #[]⟩
noncomputable def ho143 (P : Params) : Obj := ⟨.type "tuple", none, .seq #[] 0, #[]⟩
noncomputable def ho144 (P : Params) : Obj := ⟨.none, none, .func ⟨hs "splitroot", hs "splitroot", hPs (hAt hW [17]), .stmts (hBd (hAt hW [17])), hSc (hAt hW [17]), 0, [], .none, .none, .none, .none, none, .none, .none, 0⟩, #[]⟩
noncomputable def ho145 (P : Params) : Obj := ⟨.type "code", none, .fields #[.str (hs "splitroot") 432, .str (hs "splitroot") 433, .str (hs "/claim/cut.py") 434, .int (98) 0, .int (1) 0, .int (0) 0, .int (0) 0, .int (3) 0, .ref 140, .bool true, .int (276) 0, .ref 141, .none, .ref 142, .ref 143, .ref 144, .int (438) 0, .int (98) 0, .str (hs "/claim/cut.py") 439], #[]⟩
noncomputable def ho146 (P : Params) : Obj := ⟨.type "function", none, .func ⟨hs "splitroot", hs "splitroot", hPs (hAt hW [17]), .stmts (hBd (hAt hW [17])), hSc (hAt hW [17]), 3, [], .none, .none, .none, .str (hs "cpy313.posixpath") 412, none, .ref 145, .none, 0⟩, #[]⟩
noncomputable def ho147 (P : Params) : Obj := ⟨.type "tuple", none, .seq #[] 0, #[]⟩
noncomputable def ho148 (P : Params) : Obj := ⟨.none, none, .fields #[], #[]⟩
noncomputable def ho149 (P : Params) : Obj := ⟨.type "tuple", none, .seq #[.str (hs "p") 444, .str (hs "sep") 445, .str (hs "i") 446, .str (hs "head") 447] 0, #[]⟩
noncomputable def ho150 (P : Params) : Obj := ⟨.type "tuple", none, .seq #[] 0, #[]⟩
noncomputable def ho151 (P : Params) : Obj := ⟨.none, none, .func ⟨hs "dirname", hs "dirname", hPs (hAt hW [18]), .stmts (hBd (hAt hW [18])), hSc (hAt hW [18]), 0, [], .none, .none, .none, .none, none, .none, .none, 0⟩, #[]⟩
noncomputable def ho152 (P : Params) : Obj := ⟨.type "code", none, .fields #[.str (hs "dirname") 441, .str (hs "dirname") 442, .str (hs "/claim/cut.py") 443, .int (112) 0, .int (1) 0, .int (0) 0, .int (0) 0, .int (3) 0, .ref 147, .bool true, .int (276) 0, .ref 148, .none, .ref 149, .ref 150, .ref 151, .int (448) 0, .int (112) 0, .str (hs "/claim/cut.py") 449], #[]⟩
noncomputable def ho153 (P : Params) : Obj := ⟨.type "function", none, .func ⟨hs "dirname", hs "dirname", hPs (hAt hW [18]), .stmts (hBd (hAt hW [18])), hSc (hAt hW [18]), 3, [], .none, .none, .none, .str (hs "cpy313.posixpath") 412, none, .ref 152, .none, 0⟩, #[]⟩
noncomputable def ho154 (P : Params) : Obj := ⟨.type "tuple", none, .seq #[] 0, #[]⟩
noncomputable def ho155 (P : Params) : Obj := ⟨.none, none, .fields #[], #[]⟩
noncomputable def ho156 (P : Params) : Obj := ⟨.type "tuple", none, .seq #[.str (hs "path") 454, .str (hs "sep") 455, .str (hs "dot") 456, .str (hs "dotdot") 457, .str (hs "_") 458, .str (hs "initial_slashes") 459, .str (hs "comps") 460, .str (hs "new_comps") 461, .str (hs "comp") 462] 0, #[]⟩
noncomputable def ho157 (P : Params) : Obj := ⟨.type "tuple", none, .seq #[] 0, #[]⟩
noncomputable def ho158 (P : Params) : Obj := ⟨.none, none, .func ⟨hs "normpath", hs "normpath", hPs (hAt hW [19]), .stmts (hBd (hAt hW [19])), hSc (hAt hW [19]), 0, [], .none, .none, .none, .none, none, .none, .none, 0⟩, #[]⟩
noncomputable def ho159 (P : Params) : Obj := ⟨.type "code", none, .fields #[.str (hs "normpath") 451, .str (hs "normpath") 452, .str (hs "/claim/cut.py") 453, .int (120) 0, .int (1) 0, .int (0) 0, .int (0) 0, .int (3) 0, .ref 154, .bool true, .int (276) 0, .ref 155, .none, .ref 156, .ref 157, .ref 158, .int (463) 0, .int (120) 0, .str (hs "/claim/cut.py") 464], #[]⟩
noncomputable def ho160 (P : Params) : Obj := ⟨.type "function", none, .func ⟨hs "normpath", hs "normpath", hPs (hAt hW [19]), .stmts (hBd (hAt hW [19])), hSc (hAt hW [19]), 3, [], .none, .none, .none, .str (hs "cpy313.posixpath") 412, none, .ref 159, .none, 0⟩, #[]⟩
noncomputable def ho161 (P : Params) : Obj := ⟨.type "tuple", none, .seq #[] 0, #[]⟩
noncomputable def ho162 (P : Params) : Obj := ⟨.none, none, .fields #[], #[]⟩
noncomputable def ho163 (P : Params) : Obj := ⟨.type "tuple", none, .seq #[.str (hs "path") 469] 0, #[]⟩
noncomputable def ho164 (P : Params) : Obj := ⟨.type "tuple", none, .seq #[] 0, #[]⟩
noncomputable def ho165 (P : Params) : Obj := ⟨.none, none, .func ⟨hs "abspath", hs "abspath", hPs (hAt hW [20]), .stmts (hBd (hAt hW [20])), hSc (hAt hW [20]), 0, [], .none, .none, .none, .none, none, .none, .none, 0⟩, #[]⟩
noncomputable def ho166 (P : Params) : Obj := ⟨.type "code", none, .fields #[.str (hs "abspath") 466, .str (hs "abspath") 467, .str (hs "/claim/cut.py") 468, .int (145) 0, .int (1) 0, .int (0) 0, .int (0) 0, .int (3) 0, .ref 161, .bool true, .int (276) 0, .ref 162, .none, .ref 163, .ref 164, .ref 165, .int (470) 0, .int (145) 0, .str (hs "/claim/cut.py") 471], #[]⟩
noncomputable def ho167 (P : Params) : Obj := ⟨.type "function", none, .func ⟨hs "abspath", hs "abspath", hPs (hAt hW [20]), .stmts (hBd (hAt hW [20])), hSc (hAt hW [20]), 3, [], .none, .none, .none, .str (hs "cpy313.posixpath") 412, none, .ref 166, .none, 0⟩, #[]⟩
noncomputable def ho168 (P : Params) : Obj := ⟨.type "tuple", none, .seq #[.none] 0, #[]⟩
noncomputable def ho169 (P : Params) : Obj := ⟨.type "tuple", none, .seq #[] 0, #[]⟩
noncomputable def ho170 (P : Params) : Obj := ⟨.none, none, .fields #[], #[]⟩
noncomputable def ho171 (P : Params) : Obj := ⟨.type "tuple", none, .seq #[.str (hs "path") 476, .str (hs "start") 477, .str (hs "curdir") 478, .str (hs "sep") 479, .str (hs "pardir") 480, .str (hs "start_tail") 481, .str (hs "path_tail") 482, .str (hs "start_list") 483, .str (hs "path_list") 484, .str (hs "i") 485, .str (hs "rel_list") 486] 0, #[]⟩
noncomputable def ho172 (P : Params) : Obj := ⟨.type "tuple", none, .seq #[] 0, #[]⟩
noncomputable def ho173 (P : Params) : Obj := ⟨.none, none, .func ⟨hs "relpath", hs "relpath", hPs (hAt hW [21]), .stmts (hBd (hAt hW [21])), hSc (hAt hW [21]), 0, [], .none, .none, .none, .none, none, .none, .none, 0⟩, #[]⟩
noncomputable def ho174 (P : Params) : Obj := ⟨.type "code", none, .fields #[.str (hs "relpath") 473, .str (hs "relpath") 474, .str (hs "/claim/cut.py") 475, .int (153) 0, .int (2) 0, .int (0) 0, .int (0) 0, .int (3) 0, .ref 169, .bool true, .int (276) 0, .ref 170, .none, .ref 171, .ref 172, .ref 173, .int (487) 0, .int (153) 0, .str (hs "/claim/cut.py") 488], #[]⟩
noncomputable def ho175 (P : Params) : Obj := ⟨.type "function", none, .func ⟨hs "relpath", hs "relpath", hPs (hAt hW [21]), .stmts (hBd (hAt hW [21])), hSc (hAt hW [21]), 3, [], .ref 168, .none, .none, .str (hs "cpy313.posixpath") 412, none, .ref 174, .none, 0⟩, #[]⟩
noncomputable def ho176 (P : Params) : Obj := ⟨.type "list", none, .seq #[.int (14) 493, .int (14) 494, .int (4) 495, .int (1) 496, .int (1) 497, .int (9) 498, .int (0) 499, .int (64) 500, .int (0) 501, .int (1342177280) 502, .int (0) 503, .int (0) 504, .int (0) 505, .int (0) 506, .int (0) 507, .int (17) 508, .int (0) 509, .int (13) 510, .int (11) 511, .int (9) 512, .int (0) 513, .int (64) 514, .int (0) 515, .int (1342177280) 516, .int (0) 517, .int (0) 518, .int (0) 519, .int (0) 520, .int (0) 521, .int (17) 522, .int (1) 523, .int (1) 524] 0, #[]⟩
noncomputable def ho177 (P : Params) : Obj := ⟨.type "dict", none, .dict #[] 0, #[]⟩
noncomputable def ho178 (P : Params) : Obj := ⟨.type "tuple", none, .seq #[.none, .none] 0, #[]⟩
noncomputable def ho179 (P : Params) : Obj := ⟨.type "tuple", none, .seq #[.int (14) 0, .int (14) 0, .int (4) 0, .int (1) 0, .int (1) 0, .int (9) 0, .int (0) 0, .int (64) 0, .int (0) 0, .int (1342177280) 0, .int (0) 0, .int (0) 0, .int (0) 0, .int (0) 0, .int (0) 0, .int (17) 0, .int (0) 0, .int (13) 0, .int (11) 0, .int (9) 0, .int (0) 0, .int (64) 0, .int (0) 0, .int (1342177280) 0, .int (0) 0, .int (0) 0, .int (0) 0, .int (0) 0, .int (0) 0, .int (17) 0, .int (1) 0, .int (1) 0] 0, #[]⟩
noncomputable def ho180 (P : Params) : Obj := ⟨.type "re.Pattern", none, .fields #[.str (hs "([&~|])") 491, .int (32) 526, .int (1) 0, .none, .none, .ref 179, .int (0) 0], #[]⟩
noncomputable def ho181 (P : Params) : Obj := ⟨.type "bytes_iterator", none, .fields #[.none, .int (24) 0], #[]⟩
noncomputable def ho182 (P : Params) : Obj := ⟨.type "dict", none, .dict #[⟨40, .int (40) 531, .str (hs "\\(") 535⟩, ⟨41, .int (41) 537, .str (hs "\\)") 541⟩, ⟨91, .int (91) 543, .str (hs "\\[") 547⟩, ⟨93, .int (93) 549, .str (hs "\\]") 553⟩, ⟨123, .int (123) 555, .str (hs "\\{") 559⟩, ⟨125, .int (125) 561, .str (hs "\\}") 565⟩, ⟨63, .int (63) 567, .str (hs "\\?") 571⟩, ⟨42, .int (42) 573, .str (hs "\\*") 577⟩, ⟨43, .int (43) 579, .str (hs "\\+") 583⟩, ⟨45, .int (45) 585, .str (hs "\\-") 589⟩, ⟨124, .int (124) 591, .str (hs "\\|") 595⟩, ⟨94, .int (94) 597, .str (hs "\\^") 601⟩, ⟨36, .int (36) 603, .str (hs "\\$") 607⟩, ⟨92, .int (92) 609, .str (hs "\\\\") 613⟩, ⟨46, .int (46) 615, .str (hs "\\.") 619⟩, ⟨38, .int (38) 621, .str (hs "\\&") 625⟩, ⟨126, .int (126) 627, .str (hs "\\~") 631⟩, ⟨35, .int (35) 633, .str (hs "\\#") 637⟩, ⟨32, .int (32) 639, .str (hs "\\ ") 643⟩, ⟨9, .int (9) 645, .str ((⟨#[92, 9]⟩ : PySem.Str)) 649⟩, ⟨10, .int (10) 651, .str ((⟨#[92, 10]⟩ : PySem.Str)) 655⟩, ⟨13, .int (13) 657, .str ((⟨#[92, 13]⟩ : PySem.Str)) 661⟩, ⟨11, .int (11) 663, .str ((⟨#[92, 11]⟩ : PySem.Str)) 667⟩, ⟨12, .int (12) 669, .str ((⟨#[92, 12]⟩ : PySem.Str)) 673⟩] 24, #[]⟩
noncomputable def ho183 (P : Params) : Obj := ⟨.type "dict", none, .dict #[] 2, #[]⟩
noncomputable def ho184 (P : Params) : Obj := ⟨.type "tuple", none, .seq #[] 0, #[]⟩
noncomputable def ho185 (P : Params) : Obj := ⟨.type "StopIteration", none, .fields #[.ref 184, .none, .none, .none, .bool false, .none], #[]⟩
noncomputable def ho186 (P : Params) : Obj := ⟨.type "tuple", none, .seq #[] 0, #[]⟩
noncomputable def ho187 (P : Params) : Obj := ⟨.none, none, .fields #[], #[]⟩
noncomputable def ho188 (P : Params) : Obj := ⟨.type "tuple", none, .seq #[.str (hs "pattern") 679] 0, #[]⟩
noncomputable def ho189 (P : Params) : Obj := ⟨.type "tuple", none, .seq #[] 0, #[]⟩
noncomputable def ho190 (P : Params) : Obj := ⟨.none, none, .func ⟨hs "escape", hs "escape", hPs (hAt hW [25]), .stmts (hBd (hAt hW [25])), hSc (hAt hW [25]), 0, [], .none, .none, .none, .none, none, .none, .none, 0⟩, #[]⟩
noncomputable def ho191 (P : Params) : Obj := ⟨.type "code", none, .fields #[.str (hs "escape") 676, .str (hs "escape") 677, .str (hs "/claim/cut.py") 678, .int (185) 0, .int (1) 0, .int (0) 0, .int (0) 0, .int (3) 0, .ref 186, .bool true, .int (276) 0, .ref 187, .none, .ref 188, .ref 189, .ref 190, .int (680) 0, .int (185) 0, .str (hs "/claim/cut.py") 681], #[]⟩
noncomputable def ho192 (P : Params) : Obj := ⟨.type "function", none, .func ⟨hs "escape", hs "escape", hPs (hAt hW [25]), .stmts (hBd (hAt hW [25])), hSc (hAt hW [25]), 3, [], .none, .none, .none, .str (hs "re") 528, none, .ref 191, .none, 0⟩, #[]⟩
noncomputable def ho193 (P : Params) : Obj := ⟨.type "tuple", none, .seq #[] 0, #[]⟩
noncomputable def ho194 (P : Params) : Obj := ⟨.none, none, .fields #[], #[]⟩
noncomputable def ho195 (P : Params) : Obj := ⟨.type "tuple", none, .seq #[.str (hs "pat") 688, .str (hs "STAR") 689, .str (hs "QUESTION_MARK") 690, .str (hs "res") 691, .str (hs "add") 692, .str (hs "i") 693, .str (hs "n") 694, .str (hs "c") 695, .str (hs "j") 696, .str (hs "stuff") 697, .str (hs "chunks") 698, .str (hs "k") 699, .str (hs "chunk") 700] 0, #[]⟩
noncomputable def ho196 (P : Params) : Obj := ⟨.type "tuple", none, .seq #[] 0, #[]⟩
noncomputable def ho197 (P : Params) : Obj := ⟨.none, none, .func ⟨hs "_translate", hs "_translate", hPs (hAt hW [27]), .stmts (hBd (hAt hW [27])), hSc (hAt hW [27]), 0, [], .none, .none, .none, .none, none, .none, .none, 0⟩, #[]⟩
noncomputable def ho198 (P : Params) : Obj := ⟨.type "code", none, .fields #[.str (hs "_translate") 685, .str (hs "_translate") 686, .str (hs "/claim/cut.py") 687, .int (192) 0, .int (3) 0, .int (0) 0, .int (0) 0, .int (3) 0, .ref 193, .bool true, .int (276) 0, .ref 194, .none, .ref 195, .ref 196, .ref 197, .int (701) 0, .int (192) 0, .str (hs "/claim/cut.py") 702], #[]⟩
noncomputable def ho199 (P : Params) : Obj := ⟨.type "function", none, .func ⟨hs "_translate", hs "_translate", hPs (hAt hW [27]), .stmts (hBd (hAt hW [27])), hSc (hAt hW [27]), 3, [], .none, .none, .none, .str (hs "cpy313.fnmatch") 683, none, .ref 198, .none, 0⟩, #[]⟩
noncomputable def ho200 (P : Params) : Obj := ⟨.type "tuple", none, .seq #[] 0, #[]⟩
noncomputable def ho201 (P : Params) : Obj := ⟨.none, none, .fields #[], #[]⟩
noncomputable def ho202 (P : Params) : Obj := ⟨.type "tuple", none, .seq #[.str (hs "part") 709, .str (hs "sign") 710, .str (hs "body") 711, .str (hs "barred") 712, .str (hs "k") 713, .str (hs "found") 714, .str (hs "low") 715, .str (hs "high") 716] 0, #[]⟩
noncomputable def ho203 (P : Params) : Obj := ⟨.type "tuple", none, .seq #[] 0, #[]⟩
noncomputable def ho204 (P : Params) : Obj := ⟨.none, none, .func ⟨hs "_law_one", hs "_law_one", hPs (hAt hW [29]), .stmts (hBd (hAt hW [29])), hSc (hAt hW [29]), 0, [], .none, .none, .none, .none, none, .none, .none, 0⟩, #[]⟩
noncomputable def ho205 (P : Params) : Obj := ⟨.type "code", none, .fields #[.str (hs "_law_one") 706, .str (hs "_law_one") 707, .str (hs "/claim/cut.py") 708, .int (255) 0, .int (2) 0, .int (0) 0, .int (0) 0, .int (3) 0, .ref 200, .bool true, .int (276) 0, .ref 201, .none, .ref 202, .ref 203, .ref 204, .int (717) 0, .int (255) 0, .str (hs "/claim/cut.py") 718], #[]⟩
noncomputable def ho206 (P : Params) : Obj := ⟨.type "function", none, .func ⟨hs "_law_one", hs "_law_one", hPs (hAt hW [29]), .stmts (hBd (hAt hW [29])), hSc (hAt hW [29]), 3, [], .none, .none, .none, .str (hs "law_dn0069_10") 704, none, .ref 205, .none, 0⟩, #[]⟩
noncomputable def ho207 (P : Params) : Obj := ⟨.type "tuple", none, .seq #[] 0, #[]⟩
noncomputable def ho208 (P : Params) : Obj := ⟨.none, none, .fields #[], #[]⟩
noncomputable def ho209 (P : Params) : Obj := ⟨.none, none, .func ⟨hs "_law_takes", hs "_law_takes", hPs (hAt hW [30]), .stmts (hBd (hAt hW [30])), hSc (hAt hW [30]), 0, [], .none, .none, .none, .none, none, .none, .none, 0⟩, #[]⟩
noncomputable def ho210 (P : Params) : Obj := ⟨.type "code", none, .fields #[.str (hs "_law_takes") 720, .str (hs "_law_takes") 721, .str (hs "/claim/cut.py") 722, .int (279) 0, .int (3) 0, .int (0) 0, .int (0) 0, .int (3) 0, .ref 207, .bool true, .int (276) 0, .ref 208, .none, .none, .none, .ref 209, .int (723) 0, .int (279) 0, .str (hs "/claim/cut.py") 724], #[]⟩
noncomputable def ho211 (P : Params) : Obj := ⟨.type "function", none, .func ⟨hs "_law_takes", hs "_law_takes", hPs (hAt hW [30]), .stmts (hBd (hAt hW [30])), hSc (hAt hW [30]), 3, [], .none, .none, .none, .str (hs "law_dn0069_10") 704, none, .ref 210, .none, 0⟩, #[]⟩
noncomputable def ho212 (P : Params) : Obj := ⟨.type "tuple", none, .seq #[] 0, #[]⟩
noncomputable def ho213 (P : Params) : Obj := ⟨.none, none, .fields #[], #[]⟩
noncomputable def ho214 (P : Params) : Obj := ⟨.type "tuple", none, .seq #[.str (hs "code") 729, .str (hs "pieces") 730] 0, #[]⟩
noncomputable def ho215 (P : Params) : Obj := ⟨.type "tuple", none, .seq #[] 0, #[]⟩
noncomputable def ho216 (P : Params) : Obj := ⟨.none, none, .func ⟨hs "_law_dressed", hs "_law_dressed", hPs (hAt hW [31]), .stmts (hBd (hAt hW [31])), hSc (hAt hW [31]), 0, [], .none, .none, .none, .none, none, .none, .none, 0⟩, #[]⟩
noncomputable def ho217 (P : Params) : Obj := ⟨.type "code", none, .fields #[.str (hs "_law_dressed") 726, .str (hs "_law_dressed") 727, .str (hs "/claim/cut.py") 728, .int (287) 0, .int (1) 0, .int (0) 0, .int (0) 0, .int (3) 0, .ref 212, .bool true, .int (276) 0, .ref 213, .none, .ref 214, .ref 215, .ref 216, .int (731) 0, .int (287) 0, .str (hs "/claim/cut.py") 732], #[]⟩
noncomputable def ho218 (P : Params) : Obj := ⟨.type "function", none, .func ⟨hs "_law_dressed", hs "_law_dressed", hPs (hAt hW [31]), .stmts (hBd (hAt hW [31])), hSc (hAt hW [31]), 3, [], .none, .none, .none, .str (hs "law_dn0069_10") 704, none, .ref 217, .none, 0⟩, #[]⟩
noncomputable def ho219 (P : Params) : Obj := ⟨.type "tuple", none, .seq #[] 0, #[]⟩
noncomputable def ho220 (P : Params) : Obj := ⟨.none, none, .fields #[], #[]⟩
noncomputable def ho221 (P : Params) : Obj := ⟨.none, none, .func ⟨hs "_law_meant", hs "_law_meant", hPs (hAt hW [32]), .stmts (hBd (hAt hW [32])), hSc (hAt hW [32]), 0, [], .none, .none, .none, .none, none, .none, .none, 0⟩, #[]⟩
noncomputable def ho222 (P : Params) : Obj := ⟨.type "code", none, .fields #[.str (hs "_law_meant") 734, .str (hs "_law_meant") 735, .str (hs "/claim/cut.py") 736, .int (290) 0, .int (2) 0, .int (0) 0, .int (0) 0, .int (3) 0, .ref 219, .bool true, .int (276) 0, .ref 220, .none, .none, .none, .ref 221, .int (737) 0, .int (290) 0, .str (hs "/claim/cut.py") 738], #[]⟩
noncomputable def ho223 (P : Params) : Obj := ⟨.type "function", none, .func ⟨hs "_law_meant", hs "_law_meant", hPs (hAt hW [32]), .stmts (hBd (hAt hW [32])), hSc (hAt hW [32]), 3, [], .none, .none, .none, .str (hs "law_dn0069_10") 704, none, .ref 222, .none, 0⟩, #[]⟩
noncomputable def ho224 (P : Params) : Obj := ⟨.type "tuple", none, .seq #[] 0, #[]⟩
noncomputable def ho225 (P : Params) : Obj := ⟨.none, none, .fields #[], #[]⟩
noncomputable def ho226 (P : Params) : Obj := ⟨.none, none, .func ⟨hs "law", hs "law", hPs (hAt hW [33]), .stmts (hBd (hAt hW [33])), hSc (hAt hW [33]), 0, [], .none, .none, .none, .none, none, .none, .none, 0⟩, #[]⟩
noncomputable def ho227 (P : Params) : Obj := ⟨.type "code", none, .fields #[.str (hs "law") 740, .str (hs "law") 741, .str (hs "/claim/cut.py") 742, .int (299) 0, .int (1) 0, .int (0) 0, .int (0) 0, .int (3) 0, .ref 224, .bool true, .int (276) 0, .ref 225, .none, .none, .none, .ref 226, .int (743) 0, .int (299) 0, .str (hs "/claim/cut.py") 744], #[]⟩
noncomputable def ho228 (P : Params) : Obj := ⟨.type "function", none, .func ⟨hs "law", hs "law", hPs (hAt hW [33]), .stmts (hBd (hAt hW [33])), hSc (hAt hW [33]), 3, [], .none, .none, .none, .str (hs "law_dn0069_10") 704, none, .ref 227, .none, 0⟩, #[]⟩
noncomputable def hp33 (P : Params) : Heap := ⟨Array.mk [boot_o_0 P, ho1 P, ho2 P, ho3xxx P, boot_o_4 P, boot_o_5 P, boot_o_6 P, boot_o_7 P, boot_o_8 P, boot_o_9 P, boot_o_10 P, ho11 P, ho12 P, ho13 P, ho14 P, ho15 P, ho16 P, ho17 P, ho18 P, ho19 P, ho20 P, ho21 P, ho22 P, ho23 P, ho24 P, ho25 P, ho26 P, ho27 P, ho28 P, ho29xx P, ho30 P, ho31 P, ho32 P, ho33 P, ho34 P, ho35 P, ho36 P, ho37 P, ho38 P, ho39 P, ho40 P, ho41 P, ho42 P, ho43 P, ho44 P, ho45 P, ho46 P, ho47 P, ho48 P, ho49 P, ho50 P, ho51 P, ho52 P, ho53 P, ho54 P, ho55 P, ho56 P, ho57 P, ho58 P, ho59 P, ho60 P, ho61 P, ho62 P, ho63 P, ho64 P, ho65 P, ho66 P, ho67 P, ho68 P, ho69 P, ho70 P, ho71 P, ho72 P, ho73 P, ho74 P, ho75 P, ho76 P, ho77 P, ho78 P, ho79 P, ho80 P, ho81 P, ho82 P, ho83 P, ho84 P, ho85 P, ho86 P, ho87 P, ho88 P, ho89 P, ho90 P, ho91 P, ho92 P, ho93 P, ho94 P, ho95 P, ho96 P, ho97 P, ho98 P, ho99 P, ho100 P, ho101 P, ho102 P, ho103 P, ho104 P, ho105 P, ho106 P, ho107 P, ho108 P, ho109 P, ho110 P, ho111 P, ho112 P, ho113 P, ho114 P, ho115 P, ho116 P, ho117 P, ho118 P, ho119 P, ho120 P, ho121 P, ho122 P, ho123 P, ho124 P, ho125 P, ho126 P, ho127 P, ho128 P, ho129 P, ho130 P, ho131 P, ho132 P, ho133 P, ho134 P, ho135 P, ho136 P, ho137 P, ho138 P, ho139 P, ho140 P, ho141 P, ho142 P, ho143 P, ho144 P, ho145 P, ho146 P, ho147 P, ho148 P, ho149 P, ho150 P, ho151 P, ho152 P, ho153 P, ho154 P, ho155 P, ho156 P, ho157 P, ho158 P, ho159 P, ho160 P, ho161 P, ho162 P, ho163 P, ho164 P, ho165 P, ho166 P, ho167 P, ho168 P, ho169 P, ho170 P, ho171 P, ho172 P, ho173 P, ho174 P, ho175 P, ho176 P, ho177 P, ho178 P, ho179 P, ho180 P, ho181 P, ho182 P, ho183 P, ho184 P, ho185 P, ho186 P, ho187 P, ho188 P, ho189 P, ho190 P, ho191 P, ho192 P, ho193 P, ho194 P, ho195 P, ho196 P, ho197 P, ho198 P, ho199 P, ho200 P, ho201 P, ho202 P, ho203 P, ho204 P, ho205 P, ho206 P, ho207 P, ho208 P, ho209 P, ho210 P, ho211 P, ho212 P, ho213 P, ho214 P, ho215 P, ho216 P, ho217 P, ho218 P, ho219 P, ho220 P, ho221 P, ho222 P, ho223 P, ho224 P, ho225 P, ho226 P, ho227 P, ho228 P], { }⟩
noncomputable def zk (P : Params) : Frag := [(2, ho2 P), (3, ho3xxx P), (110, ho110 P), (111, ho111 P), (117, ho117 P), (118, ho118 P), (131, ho131 P), (132, ho132 P), (138, ho138 P), (139, ho139 P), (145, ho145 P), (146, ho146 P), (152, ho152 P), (153, ho153 P), (159, ho159 P), (160, ho160 P), (166, ho166 P), (167, ho167 P), (168, ho168 P), (174, ho174 P), (175, ho175 P), (179, ho179 P), (180, ho180 P), (182, ho182 P), (191, ho191 P), (192, ho192 P), (194, ho194 P), (198, ho198 P), (199, ho199 P), (205, ho205 P), (206, ho206 P), (210, ho210 P), (211, ho211 P), (217, ho217 P), (218, ho218 P), (222, ho222 P), (223, ho223 P), (227, ho227 P), (228, ho228 P)]
noncomputable abbrev zas : List Addr := [2, 3, 110, 111, 117, 118, 131, 132, 138, 139, 145, 146, 152, 153, 159, 160, 166, 167, 168, 174, 175, 179, 180, 182, 191, 192, 194, 198, 199, 205, 206, 210, 211, 217, 218, 222, 223, 227, 228]
theorem zkeys (P : Params) : zas = (zk P).map (·.1) := rfl
noncomputable abbrev hPr : Program := PySem.Challenge.rw_dn0069_10.row.prog
noncomputable abbrev hB : List Stmt := behindTheImports hPr
noncomputable def hEnv : Env := { scope := hPr.main.scope, locals := mainNs, globals := mainNs, cells := [], code := PySem.Value.ref 30, frame := some 31 }
noncomputable abbrev hC : Code := .body hB hEnv
theorem hpre (w : World) (os : OsState) : topGo treeTable hPr w 28 (some (PySem.Value.ref 6)) 12 (⟨hp0 (w).params, Array.mk [], { }, 276, os⟩ : Shared) (topStub hPr) = some ((⟨hp_pre (w).params, Array.mk [], { }, 282, os⟩ : Shared), ⟨denote treeTable hC, hC, { line := 0, col := 0, endLine := 0, endCol := 0 }, [topFrame ({ line := 0, col := 0, endLine := 0, endCol := 0 } : Pos)]⟩) := by kernel_rfl
theorem hblock (w : World) (os : OsState) : segRun treeTable hPr w 28 (some (PySem.Value.ref 6)) 1 (0 + 1) (⟨hp_pre (w).params, Array.mk [], { }, 282, os⟩ : Shared) (blockOf hB hEnv hC { line := 0, col := 0, endLine := 0, endCol := 0 } [topFrame ({ line := 0, col := 0, endLine := 0, endCol := 0 } : Pos)]) = some (.next, (⟨hp_pre (w).params, Array.mk [], { }, 282, os⟩ : Shared), hC, { line := 0, col := 0, endLine := 0, endCol := 0 }) := by kernel_rfl
theorem hseg3 (w : World) : ∀ os : OsState, segRun treeTable hPr (w) 28 (some (PySem.Value.ref 6)) 1 (69 + 1) (⟨hp_pre (w).params, Array.mk [], { }, 282, os⟩ : Shared) (piecesOf ((hB.drop 0).take 3) hEnv hC { line := 0, col := 0, endLine := 0, endCol := 0 } [topFrame ({ line := 0, col := 0, endLine := 0, endCol := 0 } : Pos)]) = some (.next, (⟨hp3 (w).params, Array.mk [], { }, 300, os⟩ : Shared), hC, { line := 6, col := 0, endLine := 10, endCol := 12 }) := by
  intro os; kernel_rfl
theorem hseg4 (w : World) : ∀ os : OsState, segRun treeTable hPr (w) 28 (some (PySem.Value.ref 6)) 1 (9 + 1) (⟨hp3 (w).params, Array.mk [], { }, 300, os⟩ : Shared) (piecesOf ((hB.drop 3).take 1) hEnv hC { line := 6, col := 0, endLine := 10, endCol := 12 } [topFrame ({ line := 0, col := 0, endLine := 0, endCol := 0 } : Pos)]) = some (.next, (⟨hp4 (w).params, Array.mk [], { }, 302, os⟩ : Shared), hC, { line := 11, col := 0, endLine := 11, endCol := 8 }) := by
  intro os; kernel_rfl
theorem rows2 (r0 r1 : String) {P : World → Prop} (h00 : ∀ w : World, P ((w.withFollow r1 false).withFollow r0 false)) (h01 : ∀ w : World, P ((w.withFollow r1 true).withFollow r0 false)) (h10 : ∀ w : World, P ((w.withFollow r1 false).withFollow r0 true)) (h11 : ∀ w : World, P ((w.withFollow r1 true).withFollow r0 true)) : ∀ w, P w := (fun w => byRow2 r0 (P := fun w => P w) (fun w => byRow2 r1 (P := fun w => P (w.withFollow r0 false)) h00 h01 w) (fun w => byRow2 r1 (P := fun w => P (w.withFollow r0 true)) h10 h11 w) w)
noncomputable abbrev hS33 (w : World) : Prop := ∀ os : OsState, segRun treeTable hPr (w) 28 (some (PySem.Value.ref 6)) 1 (2486 + 1) (⟨hp4 (w).params, Array.mk [], { }, 302, os⟩ : Shared) (piecesOf ((hB.drop 4).take 29) hEnv hC { line := 11, col := 0, endLine := 11, endCol := 8 } [topFrame ({ line := 0, col := 0, endLine := 0, endCol := 0 } : Pos)]) = some (.next, (⟨hp33 (w).params, Array.mk [], { }, 746, os⟩ : Shared), hC, { line := 299, col := 0, endLine := 340, endCol := 15 })
theorem zlX (w : World) : hS33 (World.withFollow (World.withFollow w "special-get-raises" false) "comprehension-iter-twice" false) := by
  intro os; kernel_rfl
theorem zlW (w : World) : hS33 (World.withFollow (World.withFollow w "special-get-raises" true) "comprehension-iter-twice" false) := by
  intro os; kernel_rfl
theorem zlV (w : World) : hS33 (World.withFollow (World.withFollow w "special-get-raises" false) "comprehension-iter-twice" true) := by
  intro os; kernel_rfl
theorem zlU (w : World) : hS33 (World.withFollow (World.withFollow w "special-get-raises" true) "comprehension-iter-twice" true) := by
  intro os; kernel_rfl
theorem hseg33 (w : World) : ∀ os : OsState, segRun treeTable hPr (w) 28 (some (PySem.Value.ref 6)) 1 (2486 + 1) (⟨hp4 (w).params, Array.mk [], { }, 302, os⟩ : Shared) (piecesOf ((hB.drop 4).take 29) hEnv hC { line := 11, col := 0, endLine := 11, endCol := 8 } [topFrame ({ line := 0, col := 0, endLine := 0, endCol := 0 } : Pos)]) = some (.next, (⟨hp33 (w).params, Array.mk [], { }, 746, os⟩ : Shared), hC, { line := 299, col := 0, endLine := 340, endCol := 15 }) := rows2 "comprehension-iter-twice" "special-get-raises" (P := hS33) zlX zlW zlV zlU w
theorem hfin (w : World) (os : OsState) : topRun treeTable hPr w 28 (some (PySem.Value.ref 6)) (1 + 1) (⟨hp33 (w).params, Array.mk [], { }, 746, os⟩ : Shared) (restOf [] hEnv hC { line := 299, col := 0, endLine := 340, endCol := 15 } [topFrame ({ line := 0, col := 0, endLine := 0, endCol := 0 } : Pos)]) = some (⟨hp33 (w).params, Array.mk [], { }, 746, os⟩ : Shared) := by kernel_rfl
theorem hcat : hB = (((hB.drop 0).take 3) ++ (((hB.drop 3).take 1) ++ (((hB.drop 4).take 29) ++ []))) := by kernel_rfl
theorem hrun (w : World) (os : OsState) : topRun treeTable hPr w 28 (some (PySem.Value.ref 6)) (12 + ((0 + 1) + ((69 + 1) + ((9 + 1) + ((2486 + 1) + (1 + 1)))))) (⟨hp0 (w).params, Array.mk [], { }, 276, os⟩ : Shared) (topStub hPr) = some (⟨hp33 (w).params, Array.mk [], { }, 746, os⟩ : Shared) := by
  have k := (piece_app (hseg3 w os) (piece_app (hseg4 w os) (piece_app (hseg33 w os) (hfin w os))))
  rw [← hcat] at k
  exact go_top (hpre w os) (piece_block (hblock w os) k)
theorem hsize (w : World) : ((hp0 w.params).isNs mainGlobals && (Array.mk [] : Array GenState).size == 0, (hp0 w.params).objs.size, (hp0 w.params).nsMap mainGlobals "__annotations__") = (true, 28, (some (PySem.Value.ref 6) : Option PySem.Value)) := by kernel_rfl
theorem hlooks (w : World) : (fun os => ((staticsOk (importedModules hPr.main.body) (hp0 w.params) (hp33 w.params) && namesBound hPr (hp33 w.params) && gensDone (⟨hp33 (w).params, Array.mk [], { }, 746, os⟩ : Shared) && laidKept (hp0 w.params) (hp33 w.params)), openSeen view10 [PySem.Str.ofString "relpath", PySem.Str.ofString "_twin_re_1", PySem.Str.ofString "_special_chars_map"] (importedModules hPr.main.body) (fun s => xlAt view10 [] s && recOk (RowW.records PySem.Challenge.rw_dn0069_10.row.toRowW) s) true (⟨hp33 (w).params, Array.mk [], { }, 746, os⟩ : Shared), obsZ zas (⟨hp33 (w).params, Array.mk [], { }, 746, os⟩ : Shared))) = fun _ => (true, openGood view10 [PySem.Str.ofString "relpath", PySem.Str.ofString "_twin_re_1", PySem.Str.ofString "_special_chars_map"], valZ zk 229 746 w) := by kernel_rfl
theorem hopen (w : World) : (fencedOpening treeTable hPr w 5254).map (fun s => (s.heap, s.gens, s.drawn, s.toks)) = some (hp0 w.params, Array.mk [], { }, 276) := by kernel_rfl
theorem said10 : PySem.Challenge.rw_dn0069_10.wellSaid = true := by
  kernel_rfl
theorem hleft : LeftO hPr view10 [PySem.Str.ofString "relpath", PySem.Str.ofString "_twin_re_1", PySem.Str.ofString "_special_chars_map"] (fun s => xlAt view10 [] s && recOk (RowW.records PySem.Challenge.rw_dn0069_10.row.toRowW) s) (obsZ zas) (valZ zk 229 746) 5254 := LeftO.of_pieces (H₀ := hp0) (H₁ := hp33) (gs₀ := Array.mk []) (gs₁ := Array.mk []) (d₀ := { }) (d₁ := { }) (k₀ := 276) (k₁ := 746) (m₀ := 28) (ann := some (PySem.Value.ref 6)) (M := (12 + ((0 + 1) + ((69 + 1) + ((9 + 1) + ((2486 + 1) + (1 + 1))))))) hopen hsize hrun (by kernel_rfl) hlooks
end Mine
end H10x
section Mp0x
open PySem
namespace Mine
noncomputable abbrev lobj (vs : Array Value) (n : Nat) : Obj := { cls := .type "list", data := .seq vs n }
noncomputable abbrev tobj (vs : Array Value) (n : Nat) : Obj := { cls := .type "tuple", data := .seq vs n }
noncomputable abbrev appObj (a : Addr) : Obj := { cls := .type "builtin_function_or_method", data := .fields #[.builtin "list.append", .ref a] }
end Mine
end Mp0x
section MpK0x
open PySem
namespace Mine
theorem zfv : builtinKind "issubclass.nested" = none := by decide +kernel
theorem zeY : plainId "issubclass.nested" = true := by decide +kernel
theorem zeR (a b c : Value) : argsOk "issubclass.nested" ⟨[a, b, c], []⟩ := by unfold argsOk; kernel_rfl
theorem ziw : isSubtype (.type "str") (.type "str") = pure true := by rw [isSubtype_type]; kernel_rfl
section
variable {prog : Program} {w : World} {A : Around} {E : Value → Shared → Prop}
theorem zgd (dep : Int) (tk : Tok) : Meets (Builtin.«issubclass.nested» ⟨[.type "str", .type "str", .int dep tk], []⟩) (fun _ R s => R (.ok (.ret (.bool true))) s) :=
  .of_wp fun prog w A R s h => by
    obtain ⟨hh, g, d, t, os⟩ := s
    have f1 := ziw
    have f2 : typeOf (.type "str") = pure (.type "type") := rfl
    repeat (any_goals (first | assumption | (rw [f1]) | wp_step))
    all_goals exact ⟨_, rfl, h⟩
theorem zfc {tp : Addr} {c2 : Value} {n : Nat} {tk : Tok} {s : Shared} {Q : Fin → Shared → Prop} (htp : s.heap.get? tp = some { cls := .type "tuple", data := .seq [Value.type "str", c2].toArray n })
    (hq : ∀ tk', Q (.done (.ret (.bool true))) { s with toks := tk' }) : wpAny (model prog w) A (Builtin.«issubclass.nested» ⟨[.type "str", .ref tp, .int 0 tk], []⟩) Q E s := by
  obtain ⟨h, g, d, t, os⟩ := s
  have hT2 : (⟨h, g, d, t, os⟩ : Shared).TypeIs (.ref tp) "tuple" := ⟨_, htp, rfl⟩
  have f1 := F.isi_sub_tuple
  repeat (any_goals (first | assumption | ((with_reducible show wpAny _ _ (call (Value.builtin "issubclass.nested") _ _) _ _ _); refine call_function_meets zfv zeY F.entry_issubclass_nested (zeR _ _ _) (zgd _ _) ?_) | wp_step))
  exact hq _
theorem zge {tp : Addr} {c2 : Value} {n : Nat} {s : Shared} {Q : Value → Shared → Prop} (htp : s.heap.get? tp = some { cls := .type "tuple", data := .seq [Value.type "str", c2].toArray n })
    (hq : ∀ tk', Q (.bool true) { s with toks := tk' }) : wpAny (model prog w) A (call (.builtin "issubclass") [.type "str", .ref tp]) Q E s := by
  have g : Meets (Builtin.«issubclass» ⟨[.type "str", .ref tp], []⟩) (fun _ R s => s.heap.get? tp = some { cls := .type "tuple", data := .seq [Value.type "str", c2].toArray n } ∧ ∀ tk', R (.ok (.ret (.bool true))) { s with toks := tk' }) :=
    fun _ _ _ _ _ hs => PyProof.Rows.issubclass_outer (zfc hs.1 fun tk' => hs.2 tk')
  exact PyProof.Rows.call_issubclass g ⟨htp, fun tk' => hq tk'⟩
end
end Mine
end MpK0x
section MpK1x
open PySem
namespace Mine
theorem zix : isSubtype (.type "str") (.type "list") = pure false := by rw [isSubtype_type]; kernel_rfl
theorem zhR : isSubtype (.type "str") (.type "tuple") = pure false := by rw [isSubtype_type]; kernel_rfl
theorem zg6 : isSubtype (.type "list") (.type "list") = pure true := by rw [isSubtype_type]; kernel_rfl
section
variable {prog : Program} {w : World} {A : Around} {E : Value → Shared → Prop}
theorem zfd {x : Str} {u : Tok} {T : String} (hne : (Value.type "str" == Value.type T) = false) (hty : typeOf (.type T) = pure (.type "type")) (hsub : isSubtype (.type "str") (.type T) = pure false) (dep : Int) (tk : Tok) :
    Meets (Builtin.«isinstance.nested» ⟨[.str x u, .type T, .int dep tk], []⟩) (fun _ R s => ∀ tk', R (.ok (.ret (.bool false))) { s with toks := tk' }) :=
  .of_wp fun prog w A R s h => by
    obtain ⟨hh, g, d, t, os⟩ := s
    exact isinstance_nested_false_str hne hty hsub ⟨_, rfl, h _⟩
theorem zih {a : Addr} {vs : Array Value} {n : Nat} (dep : Int) (tk : Tok) :
    Meets (Builtin.«isinstance.nested» ⟨[.ref a, .type "list", .int dep tk], []⟩) (fun _ R s => s.heap.get? a = some (lobj vs n) ∧ ∀ tk', R (.ok (.ret (.bool true))) { s with toks := tk' }) :=
  .of_wp fun prog w A R s h => by
    obtain ⟨hh, g, d, t, os⟩ := s
    obtain ⟨hl, h⟩ := h
    have hT : (⟨hh, g, d, t, os⟩ : Shared).TypeIs (.ref a) "list" := ⟨_, hl, rfl⟩
    refine isinstance_nested_true rfl hT rfl zg6 ⟨_, rfl, h _⟩
set_option maxHeartbeats 4000000 in
theorem zig {x : Str} {u : Tok} {tp : Addr} {n : Nat} {tk : Tok} {s : Shared} {Q : Fin → Shared → Prop} (htp : s.heap.get? tp = some { cls := .type "tuple", data := .seq [Value.type "list", Value.type "tuple"].toArray n })
    (hq : ∀ tk', Q (.done (.ret (.bool false))) { s with toks := tk' }) : wpAny (model prog w) A (Builtin.«isinstance.nested» ⟨[.str x u, .ref tp, .int 0 tk], []⟩) Q E s := by
  obtain ⟨h, g, d, t, os⟩ := s
  have hT2 : (⟨h, g, d, t, os⟩ : Shared).TypeIs (.ref tp) "tuple" := ⟨_, htp, rfl⟩
  have hx : ∀ t', (⟨h, g, d, t', os⟩ : Shared).TypeIs (.str x u) "str" := fun _ => rfl
  have f1 := F.isi_sub_tuple
  have k1 := fun tk => zfd (x := x) (u := u) (T := "list") (by decide) rfl zix 1 tk
  have k2 := fun tk => zfd (x := x) (u := u) (T := "tuple") (by decide) rfl zhR 1 tk
  repeat (any_goals (first | assumption | exact hx _ | ((with_reducible show wpAny _ _ (call (Value.builtin "isinstance.nested") _ _) _ _ _); refine call_function_meets F.kind_isinstance_nested F.plain_isinstance_nested F.entry_isinstance_nested (F.args_isinstance_nested_3 _ _ _) (by first | exact k1 _ | exact k2 _) (fun tk' => ?_)) | wp_step))
  all_goals exact hq _
theorem zhj {a : Addr} {vs : Array Value} {k : Nat} {tp : Addr} {n : Nat} {c2 : Value} {tk : Tok} {s : Shared} {Q : Fin → Shared → Prop} (hl : s.heap.get? a = some (lobj vs k)) (htp : s.heap.get? tp = some { cls := .type "tuple", data := .seq [Value.type "list", c2].toArray n })
    (hq : ∀ tk', Q (.done (.ret (.bool true))) { s with toks := tk' }) : wpAny (model prog w) A (Builtin.«isinstance.nested» ⟨[.ref a, .ref tp, .int 0 tk], []⟩) Q E s := by
  obtain ⟨h, g, d, t, os⟩ := s
  have hT2 : (⟨h, g, d, t, os⟩ : Shared).TypeIs (.ref tp) "tuple" := ⟨_, htp, rfl⟩
  have hx : ∀ t', (⟨h, g, d, t', os⟩ : Shared).TypeIs (.ref a) "list" := fun _ => ⟨_, hl, rfl⟩
  have f1 := F.isi_sub_tuple
  have k1 := fun tk => zih (a := a) (vs := vs) (n := k) 1 tk
  repeat (any_goals (first | assumption | exact hx _ | ((with_reducible show wpAny _ _ (call (Value.builtin "isinstance.nested") _ _) _ _ _); refine call_function_meets F.kind_isinstance_nested F.plain_isinstance_nested F.entry_isinstance_nested (F.args_isinstance_nested_3 _ _ _) (k1 _) ⟨hl, fun tk' => ?_⟩) | wp_step))
  all_goals exact hq _
theorem ziZ {x : Str} {u : Tok} {tp : Addr} {n : Nat} {s : Shared} {Q : Value → Shared → Prop} (htp : s.heap.get? tp = some { cls := .type "tuple", data := .seq [Value.type "list", Value.type "tuple"].toArray n })
    (hq : ∀ tk', Q (.bool false) { s with toks := tk' }) : wpAny (model prog w) A (call (.builtin "isinstance") [.str x u, .ref tp]) Q E s := by
  have g : Meets (Builtin.«isinstance» ⟨[.str x u, .ref tp], []⟩) (fun _ R s => s.heap.get? tp = some { cls := .type "tuple", data := .seq [Value.type "list", Value.type "tuple"].toArray n } ∧ ∀ tk', R (.ok (.ret (.bool false))) { s with toks := tk' }) :=
    fun _ _ _ _ s hs => isinstance_outer (zig hs.1 fun tk' => hs.2 tk') (Shared.TypeIs.not_mainsLoader (T := "str") (s := s) rfl)
  exact call_isinstance g ⟨htp, fun tk' => hq tk'⟩
theorem zil {a : Addr} {vs : Array Value} {k : Nat} {tp : Addr} {n : Nat} {c2 : Value} {s : Shared} {Q : Value → Shared → Prop} (hl : s.heap.get? a = some (lobj vs k)) (htp : s.heap.get? tp = some { cls := .type "tuple", data := .seq [Value.type "list", c2].toArray n })
    (hq : ∀ tk', Q (.bool true) { s with toks := tk' }) : wpAny (model prog w) A (call (.builtin "isinstance") [.ref a, .ref tp]) Q E s := by
  have g : Meets (Builtin.«isinstance» ⟨[.ref a, .ref tp], []⟩) (fun _ R s => s.heap.get? a = some (lobj vs k) ∧ s.heap.get? tp = some { cls := .type "tuple", data := .seq [Value.type "list", c2].toArray n } ∧ ∀ tk', R (.ok (.ret (.bool true))) { s with toks := tk' }) :=
    fun _ _ _ _ s hs => isinstance_outer (zhj hs.1 hs.2.1 fun tk' => hs.2.2 tk') (Shared.TypeIs.not_mainsLoader (T := "list") (s := s) ⟨_, hs.1, rfl⟩)
  exact call_isinstance g ⟨hl, htp, fun tk' => hq tk'⟩
end
end Mine
end MpK1x
section MpQ0x
open PySem
namespace Mine
section
variable {prog : Program} {w : World} {A : Around} {E : Value → Shared → Prop} {s : Shared}
theorem zji {l : Addr} {items : Array Value} {n k : Nat} {i : Int} {t : Tok} {v : Value} {Q : Unit → Shared → Prop} (hl : s.heap.IsList l items) (ho : s.heap.get? l = some { cls := .type "list", dict := none, data := .seq items n, slots := #[] }) (hfit : Builtin.List.listFitsIndex i = true)
    (hj : seqIndex? i items.size = some k) (hk : k < items.size)
    (hQ : Q () { s with heap := s.heap.update l (Obj.mapSeq fun xs => xs.setIfInBounds k v) }) : wpAny (model prog w) A (setItem (.ref l) (.int i t) v) Q E s := by
  unfold setItem
  try with_reducible refine wpAny_holding ?_
  first | refine wpAny_bind (wpAny_pure ?_) | skip
  refine wpAny_bind (wpAny_sequenceKey hl.typeIs (by decide) ?_)
  refine wpAny_bind (wpAny_callSpecial?_slot (name := Str.ofString "__setitem__") hl.typeIs slot_list_setitem
    (wpAny_call_entry slot_list_setitem hl.typeIs entry_list_setitem ?_ (args_list_setitem _ _ _)))
  show wpAny _ _ (Builtin.List.listSubscript? (.int i t) >>= _) _ _ s
  refine wpAny_bind (wpAny_listSubscript_int hfit ?_)
  clear hfit
  have hx' : items[k]? = some items[k] := Array.getElem?_eq_getElem hk
  cases i with
  | ofNat j =>
    have ejk : j = k := by
      unfold seqIndex? at hj
      simp at hj
      split at hj <;> omega
    subst ejk
    show wpAny _ _ ((seqItemAt l j >>= fun r => pure (r.map (j, ·))) >>= _) _ _ s
    refine wpAny_bind (wpAny_bind (wpAny_seqItemAt ho rfl (wpAny_pure ?_)))
    rw [hx']
    show wpAny _ _ (setSeqItemAt l j v >>= _) _ _ s
    refine wpAny_bind (wpAny_setSeqItemAt ho rfl ?_)
    first
      | exact wpAny_bind (wpAny_pure (wpAny_pure ⟨.none, rfl, wpAny_pure hQ⟩))
      | exact wpAny_pure ⟨.none, rfl, wpAny_pure hQ⟩
  | negSucc j =>
    show wpAny _ _ ((Builtin.List.listItems (.ref l) >>= fun xs => pure ((seqIndex? (Int.negSucc j) xs.size).bind fun j => xs[j]?.map (j, ·))) >>= _) _ _ s
    refine wpAny_bind (wpAny_bind ?_)
    unfold Builtin.List.listItems
    refine wpAny_bind (wpAny_seqItems ho rfl (wpAny_pure (wpAny_pure ?_)))
    rw [hj, Option.bind_some, hx']
    show wpAny _ _ (setSeqItemAt l k v >>= _) _ _ s
    refine wpAny_bind (wpAny_setSeqItemAt ho rfl ?_)
    first
      | exact wpAny_bind (wpAny_pure (wpAny_pure ⟨.none, rfl, wpAny_pure hQ⟩))
      | exact wpAny_pure ⟨.none, rfl, wpAny_pure hQ⟩
end
end Mine
end MpQ0x
section MpR0x
open PySem
namespace Mine
theorem slot_md_get : PySem.Slot "method_descriptor" "__get__" "method_descriptor.__get__" :=
  PySem.Slot.of (owner := "method_descriptor") (n := "__get__") (by rw [typeLookup_type, builtinLookup_eq_fast]; kernel_rfl) (by decide +kernel) (by decide +kernel) (by decide +kernel)
    (by first | exact .inl (by decide +kernel) | exact .inr (by decide +kernel)) (by rw [isSubtype_type]; kernel_rfl)
theorem ziV : entryFor table "method_descriptor.__get__" = some Builtin.«method_descriptor.__get__» := entryFor_of_tree (by kernel_rfl)
theorem zio (a b c : Value) : argsOk "method_descriptor.__get__" ⟨[a, b, c], []⟩ := by unfold argsOk; kernel_rfl
theorem zlE : typeLookup (.type "method_descriptor") "__set__" = pure none := by rw [typeLookup_type, builtinLookup_eq_fast]; kernel_rfl
theorem ziI : typeLookup (.type "method_descriptor") "__delete__" = pure none := by rw [typeLookup_type, builtinLookup_eq_fast]; kernel_rfl
end Mine
end MpR0x
section MpR1x
open PySem
namespace Mine
theorem zju : builtinKind "list.append" = some .method := by decide +kernel
theorem zgL : isSubtype (.type "list") (.type "module") = pure false := by rw [isSubtype_type]; kernel_rfl
section
variable {prog : Program} {w : World} {A : Around} {E : Value → Shared → Prop} {s : Shared}
theorem zjK {l : Addr} {items : Array Value} {n : Nat} {x : Value} {Q : Unit → Shared → Prop} (hl : s.heap.get? l = some (lobj items n)) (h : Q () s) : wpAny (model prog w) A (checkBoundCall "list.append" ⟨[.ref l, x], []⟩) Q E s := by
  obtain ⟨hp, g, d, tk, os⟩ := s
  have hT : (⟨hp, g, d, tk, os⟩ : Shared).TypeIs (.ref l) "list" := ⟨_, hl, rfl⟩
  have f1 := zgL
  have f2 := zju
  unfold checkBoundCall
  repeat (any_goals (first | assumption | wp_step))
theorem zk3 {b l : Addr} {items : Array Value} {n : Nat} {x : Value} {R : Result → Shared → Prop} (hb : s.heap.get? b = some (appObj l)) (hl : s.heap.get? l = some (lobj items n))
    (h : codeAny (model prog w) A (.builtin "list.append" ⟨[.ref l, x], []⟩) R s) : codeAny (model prog w) A (.call (.ref b) ⟨[x], []⟩) R s := by
  refine codeAny_of_tree ?_
  show wpAny _ _ (callAny (.ref b) _) _ _ _
  unfold callAny
  refine wpAny_bind (wpAny_load hb ?_)
  refine wpAny_bind (zjK hl ?_)
  exact wpAny_pure ⟨Code.quiet_builtin _ (by decide +kernel), h⟩
theorem zjP {l : Addr} {items : Array Value} {n : Nat} {x : Value} {R : Result → Shared → Prop} (hl : s.heap.get? l = some (lobj items n)) (hsz : items.size ≤ sizeLine)
    (h : R (.ok (.ret .none)) { s with heap := s.heap.update l (Obj.mapSeq fun y => y.push x) }) : codeAny (model prog w) A (.builtin "list.append" ⟨[.ref l, x], []⟩) R s := by
  refine codeAny_builtin F.entry_list_append ?_
  exact list_append l items n x hsz prog w _ _ s ⟨hl, h⟩
theorem ziK {b l : Addr} {Q : Keeper → Shared → Prop} (hb : s.heap.get? b = some (appObj l)) (h : Q .machine s) : wpAny (model prog w) A (keeperOf (.ref b)) Q E s := by
  unfold keeperOf
  exact wpAny_bind (wpAny_load hb (wpAny_pure h))
theorem zhm {b l : Addr} {pos : Pos} {args : List (Bool × Sem Value)} {Q : Value → Shared → Prop} (hplain : args.any (·.1) = false)
    (h : wpAny (model prog w) A (evalArgs (.ref b) true args []) (fun a s₁ => s₁.heap.get? b = some (appObj l) ∧ wpAny (model prog w) A (call (.ref b) a.pos a.kw) Q E s₁) E s) :
    wpAny (model prog w) A (callWith pos (.ref b) [] args []) Q E s := by
  unfold callWith
  refine wpAny_bind (wpAny_holding (wpAny_mono h (fun a s₁ h₁ => wpAny_bind (wpAny_standAt ?_)) fun _ _ x => x))
  simp only [hplain, List.any_nil, Bool.or_false]
  refine wpAny_bind (ziK h₁.1 ?_)
  exact wpAny_bind (wpAny_mono h₁.2 (fun r s₂ hr => wpAny_bind (wpAny_holding (wpAny_point (wpAny_pure hr)))) fun _ _ x => x)
theorem sub_list_list : isSubtype (.type "list") (.type "list") = pure true := by rw [isSubtype_type]; kernel_rfl
theorem ziH (l : Addr) (items : Array Value) (n : Nat) :
    Meets (Builtin.«method_descriptor.__get__» ⟨[.builtin "list.append", .ref l, .type "list"], []⟩) (fun A R s => s.heap.get? l = some (lobj items n) ∧ R (.ok (.ret (.ref s.heap.objs.size))) { s with heap := s.heap.push (appObj l) }) :=
  Meets.of_wp fun prog w A R s hs => by
    obtain ⟨hp, g, d, tk, os⟩ := s
    obtain ⟨hl, h⟩ := hs
    have hT : (⟨hp, g, d, tk, os⟩ : Shared).TypeIs (.ref l) "list" := ⟨_, hl, rfl⟩
    have f1 := sub_list_list
    have f2 : (Manifest.toldItsClass.contains "list.append") = false := by decide +kernel
    unfold Builtin.«method_descriptor.__get__»
    simp only [f2]
    repeat (any_goals (first | assumption | wp_step))
    rw [show (".".intercalate ("list.append".cutAt '.').dropLast) = "list" by decide +kernel]
    rw [f1]
    refine wpAny_pure ?_
    rw [if_neg (by decide)]
    refine wpAny_pure ?_
    show wpAny _ _ (newFields "builtin_function_or_method" [.builtin "list.append", .ref l] >>= fun v => ret v) _ _ _
    exact wpAny_bind (wpAny_newObj_type (wpAny_pure ⟨_, rfl, h⟩))
theorem zjO : (["__module__", "__name__", "__qualname__", "__doc__", "__annotations__"] : List Str).contains "append" = false := by decide +kernel
theorem zdu (l : Addr) (items : Array Value) (n : Nat) (u : Tok) :
    Meets (Builtin.«object.__getattribute__» ⟨[.ref l, .str "append" u], []⟩) (fun A R s => s.heap.get? l = some (lobj items n) ∧ R (.ok (.ret (.ref s.heap.objs.size))) { s with heap := s.heap.push (appObj l) }) :=
  Meets.of_wp fun prog w A R s hs => by
    obtain ⟨hp, g, d, tk, os⟩ := s
    obtain ⟨hl, h⟩ := hs
    have hT : (⟨hp, g, d, tk, os⟩ : Shared).TypeIs (.ref l) "list" := ⟨_, hl, rfl⟩
    have hM : (⟨hp, g, d, tk, os⟩ : Shared).TypeIs (.builtin "list.append") "method_descriptor" := F.type_list_append
    have f1 := F.slot_list_append.lookup
    have f2 := slot_md_get.lookup
    have f3 := zlE
    have f4 := ziI
    have f5 := zjO
    unfold Builtin.«object.__getattribute__»
    repeat (any_goals (first | assumption | ((with_reducible show wpAny _ _ (call (Value.builtin "method_descriptor.__get__") _ _) _ _ _); refine call_meets slot_md_get hM ziV (zio _ _ _) (ziH l items n) ⟨hl, ?_⟩) | wp_step))
    exact wpAny_pure ⟨_, rfl, h⟩
theorem zhk {l : Addr} {items : Array Value} {n : Nat} {Q : Value → Shared → Prop} (hl : s.heap.get? l = some (lobj items n)) (h : Q (.ref s.heap.objs.size) { s with heap := s.heap.push (appObj l), toks := s.toks + 1 }) :
    wpAny (model prog w) A (getAttr (.ref l) "append" true) Q E s := by
  obtain ⟨hp, g, d, tk, os⟩ := s
  have hT : ∀ tk', (⟨hp, g, d, tk', os⟩ : Shared).TypeIs (.ref l) "list" := fun _ => ⟨_, hl, rfl⟩
  have f3 := F.slot_list_getattribute.lookup
  have f4 := F.slot_list_getattribute.bind (.ref l)
  have f5 := am_list_getattr_none
  unfold getAttr getAttrBy
  repeat (any_goals (first | assumption | exact hT _ | ((with_reducible show wpAny _ _ (call (Value.builtin "list.__getattribute__") _ _) _ _ _); refine call_meets F.slot_list_getattribute (hT _) am_entry_list_getattribute (F.args_list_getattribute_2 _ _) (zdu l items n _) ⟨hl, ?_⟩) | wp_step))
  show wpAny _ _ (handedOut (.ref _)) _ _ _
  exact wpAny_pure h
end
end Mine
end MpR1x
section MpY0x
open PySem
namespace Mine
theorem zg7 : isSubtype (.type "KeyError") (.type "LookupError") = pure true := by rw [isSubtype_type]; kernel_rfl
section
variable {prog : Program} {w : World} {A : Around} {E : Value → Shared → Prop} {s : Shared}
theorem zle {d : Addr} {f : Int → Option Value} {c : Nat} {t : PySem.Str} {u : Tok} {Q : Builtin.Str.Mapped → Shared → Prop} (hm : s.heap.MapOf (intKind prog w) d f) (hv : f (c : Int) = some (.str t u)) (h : ∀ k, Q (.text t) { s with toks := k }) :
    wpAny (model prog w) A (Builtin.Str.tableLookup (.ref d) c) Q E s := by
  unfold Builtin.Str.tableLookup
  refine wpAny_bind (wpAny_attempt (wpAny_bind (wpAny_mkInt (wpAny_getItem_of (knd := intKind prog w) (k := (c : Int)) (v := .str t u) (by simp [intKind, Value.isInt]) hm hv ?_))))
  obtain ⟨hh, g, dd, tk, os⟩ := s
  repeat (any_goals (first | assumption | wp_step))
  exact h _
theorem zkv {d : Addr} {f : Int → Option Value} {c : Nat} {Q : Builtin.Str.Mapped → Shared → Prop} (hh : A.handled = none) (hm : s.heap.MapOf (intKind prog w) d f) (hd : (d == sysModules) = false) (hv : f (c : Int) = none)
    (h : ∀ h' k, (∀ b o, s.heap.get? b = some o → h'.get? b = some o) → Q .keep { s with heap := h', toks := k }) :
    wpAny (model prog w) A (Builtin.Str.tableLookup (.ref d) c) Q E s := by
  unfold Builtin.Str.tableLookup
  refine wpAny_bind (wpAny_attempt (wpAny_bind (wpAny_mkInt (wpAny_getItem_missing_of (knd := intKind prog w) (k := (c : Int)) (by simp [intKind, Value.isInt]) hd hh hm hv fun h' e ne => ?_))))
  obtain ⟨ob, t, g1, g2, g3⟩ := ne.there
  show wpAny _ _ (do if ← isInstance (.ref e) (.type "LookupError") then rule "str.translate.not-in-table"; pure Builtin.Str.Mapped.keep else throw (.ref e)) _ _ _
  refine wpAny_bind (wpAny_isInstance (T := "KeyError") (b := true) ⟨ob, g1, g2⟩ zg7 ?_)
  rw [if_pos rfl]
  exact wpAny_bind (wpAny_rule (wpAny_pure (h _ _ ne.keeps)))
set_option maxHeartbeats 2000000 in
theorem zhP {d : Addr} {f : Int → Option Value} {c x : Nat} {t u : Tok} (hc : c < 128) :
    MeetsIn prog w (Builtin.«str.translate» ⟨[.str ⟨#[c]⟩ t, .ref d], []⟩) (fun A R s => (s.heap.MapOf (intKind prog w) d f ∧ f (c : Int) = some (.str ⟨#[92, x]⟩ u)) ∧ ∀ k k', R (.ok (.ret (.str ⟨#[92, x]⟩ k))) { s with toks := k' }) :=
  .of_wp fun A R s hs => by
    obtain ⟨hh, g, dd, tk, os⟩ := s
    obtain ⟨⟨hm, hv⟩, h⟩ := hs
    have hc' : decide (c < 128) = true := by simpa using hc
    repeat (any_goals (first | assumption | ((with_reducible show wpAny _ _ (Builtin.Str.tableLookup _ _) _ _ _); refine zle hm hv fun k => ?_) | wp_step))
    exact ⟨_, rfl, h _ _⟩
set_option maxHeartbeats 2000000 in
theorem zg5 {d : Addr} {f : Int → Option Value} {c : Nat} {t : Tok} (hc : c < 128) (hd : (d == sysModules) = false) :
    MeetsIn prog w (Builtin.«str.translate» ⟨[.str ⟨#[c]⟩ t, .ref d], []⟩) (fun A R s => (s.heap.MapOf (intKind prog w) d f ∧ f (c : Int) = none ∧ A.handled = none) ∧ ∀ h' k k', (∀ b o, s.heap.get? b = some o → h'.get? b = some o) → R (.ok (.ret (.str ⟨#[c]⟩ k))) { s with heap := h', toks := k' }) :=
  .of_wp fun A R s hs => by
    obtain ⟨hh, g, dd, tk, os⟩ := s
    obtain ⟨⟨hm, hv, hA⟩, h⟩ := hs
    have hc' : decide (c < 128) = true := by simpa using hc
    repeat (any_goals (first | assumption | ((with_reducible show wpAny _ _ (Builtin.Str.tableLookup _ _) _ _ _); refine zkv hA hm hd hv fun h' k hk => ?_) | wp_step))
    exact ⟨_, rfl, h _ _ _ hk⟩
end
end Mine
end MpY0x
section MpZ0x
open PySem
namespace Mine
open PySem.Builtin PySem.Builtin.Re
noncomputable def reCode : Array Nat := #[14, 14, 4, 1, 1, 9, 0, 64, 0, 1342177280, 0, 0, 0, 0, 0, 17, 0, 13, 11, 9, 0, 64, 0, 1342177280, 0, 0, 0, 0, 0, 17, 1, 1]
theorem zdK {m : Sre.M} (h : m.outcome.isSome = true) : ∀ n, m.runFor n = m
  | 0 => rfl
  | n + 1 => by unfold Sre.M.runFor; rw [if_pos h]
theorem zhy : ∀ (a b : Nat) (m : Sre.M), m.runFor (a + b) = (m.runFor a).runFor b
  | 0, b, m => by rw [Nat.zero_add]; rfl
  | a + 1, b, m => by
    rw [Nat.succ_add]
    by_cases h : m.outcome.isSome = true
    · rw [zdK h, zdK h, zdK h]
    · have e1 : ∀ n, Sre.M.runFor (n + 1) m = Sre.M.runFor n m.step := fun n => by
        conv => lhs; unfold Sre.M.runFor
        rw [if_neg h]
      show Sre.M.runFor (a + b + 1) m = _
      rw [e1, e1]
      exact zhy a b m.step
section
variable {prog : Program} {w : World} {A : Around} {E : Value → Shared → Prop} {s : Shared}
theorem zkk : ∀ (k t : Nat) (m : Sre.M), (m.runFor (4 * (k + 1))).outcome.isSome = true → k < t → ∀ {Q : Sre.M → Shared → Prop}, Q (m.runFor (4 * (k + 1))) s → wpAny (model prog w) A (reDrive t m) Q E s
  | k, 0, m, _, h, _, _ => absurd h (Nat.not_lt_zero _)
  | 0, t + 1, m, ho, h, Q, hQ => by
    unfold reDrive
    show wpAny _ _ (if (m.runFor 4).outcome.isSome = true then pure (m.runFor 4) else _) _ _ _
    rw [if_pos ho]
    exact wpAny_pure hQ
  | k + 1, t + 1, m, ho, h, Q, hQ => by
    unfold reDrive
    have e : m.runFor (4 * (k + 1 + 1)) = (m.runFor 4).runFor (4 * (k + 1)) := by
      rw [show 4 * (k + 1 + 1) = 4 + 4 * (k + 1) from Nat.add_comm (4 * (k + 1)) 4]
      exact zhy 4 _ m
    rw [e] at ho hQ
    show wpAny _ _ (if (m.runFor 4).outcome.isSome = true then pure (m.runFor 4) else (do rule "sre.turn"; reDrive t (m.runFor 4))) _ _ _
    by_cases h4 : (m.runFor 4).outcome.isSome = true
    · rw [if_pos h4]
      rw [zdK h4] at hQ
      exact wpAny_pure hQ
    · rw [if_neg h4]
      exact wpAny_bind (wpAny_rule (zkk k t (m.runFor 4) ho (Nat.lt_of_succ_lt_succ h) hQ))
theorem zjj (sn : Sre.Seen) : ∀ (l : List Nat) {Q : PUnit → Shared → Prop}, Q ⟨⟩ s → wpAny (model prog w) A (forIn l PUnit.unit fun i _ => do
      if sn.has i then
        rule (Sre.names.getD i "")
        pure (ForInStep.yield PUnit.unit)
      else pure (ForInStep.yield PUnit.unit)) Q E s
  | [], Q, h => by rw [List.forIn_nil]; exact wpAny_pure h
  | i :: l, Q, h => by
    rw [List.forIn_cons]
    split
    · exact wpAny_bind (wpAny_bind (wpAny_rule (wpAny_pure (zjj sn l h))))
    · exact wpAny_bind (wpAny_pure (zjj sn l h))
theorem zkX {m : Sre.M} (k : Nat) (hk : k < 100) (h : (m.runFor (4 * (k + 1))).outcome = some .failed) {Q : Option Sre.M → Shared → Prop} (hQ : Q none s) : wpAny (model prog w) A (reRunToEnd m) Q E s := by
  unfold reRunToEnd
  refine wpAny_bind (zkk k (2 ^ 64) m (by rw [h]; rfl) (Nat.lt_trans hk (by decide)) ?_)
  refine wpAny_bind (zjj _ _ ?_)
  rw [h]
  exact wpAny_pure hQ
end
end Mine
end MpZ0x
section MpZ1x
open PySem
namespace Mine
open PySem.Builtin PySem.Builtin.Re
theorem zhd : PlainAttrs "re.Pattern" :=
  ⟨⟨"object.__getattribute__", by rw [typeLookup_type, builtinLookup_eq_fast]; kernel_rfl, by decide +kernel⟩, by rw [typeLookup_type, builtinLookup_eq_fast]; kernel_rfl⟩
theorem zfK : PySem.Slot "re.Pattern" "sub" "re.Pattern.sub" :=
  PySem.Slot.of (owner := "re.Pattern") (n := "sub") (by rw [typeLookup_type, builtinLookup_eq_fast]; kernel_rfl) (by decide +kernel) (by decide +kernel) (by decide +kernel)
    (by first | exact .inl (by decide +kernel) | exact .inr (by decide +kernel)) (by rw [isSubtype_type]; kernel_rfl)
theorem zir : typeOf (.builtin "re.Pattern.sub") = pure (.type "method_descriptor") := by show builtinType _ = _; rw [builtinType_eq_fast]; kernel_rfl
theorem zij : entryFor table "re.Pattern.sub" = some Builtin.«re.Pattern.sub» := entryFor_of_tree (by kernel_rfl)
theorem zhl : entryFor table "re.Pattern.sub.loop" = some Builtin.«re.Pattern.sub.loop» := entryFor_of_tree (by kernel_rfl)
theorem zhn (a b c : Value) : argsOk "re.Pattern.sub" ⟨[a, b, c], []⟩ := by unfold argsOk; kernel_rfl
theorem zew : plainId "re.Pattern.sub.loop" = true := by decide +kernel
set_option genInjectivity false in
structure PatAt (h : Heap) (P C : Addr) (codes : Array Value) : Prop where
  pat : ∃ x t u v w y, h.get? P = some { cls := .type "re.Pattern", data := .fields #[.str x t, .int 32 u, .int 1 v, .none, .none, .ref C, .int 0 w] } ∧ y = (0 : Nat)
  code : ∃ n, h.get? C = some (tobj codes n)
  is : (codes.map reRawOf).map Int.toNat = reCode
theorem PatAt.keeps {h h' : Heap} {P C : Addr} {codes : Array Value} (x : PatAt h P C codes) (hk : ∀ b o, h.get? b = some o → h'.get? b = some o) : PatAt h' P C codes :=
  ⟨let ⟨a, t, u, v, w, y, e, r⟩ := x.pat; ⟨a, t, u, v, w, y, hk _ _ e, r⟩, let ⟨n, e⟩ := x.code; ⟨n, hk _ _ e⟩, x.is⟩
section
variable {prog : Program} {w : World} {A : Around} {E : Value → Shared → Prop} {s : Shared} {P C : Addr} {codes : Array Value} {a : Array Nat} {u : Tok}
theorem zjR (hp : PatAt s.heap P C codes) {Q : ReTarget → Shared → Prop} (hQ : Q { pattern := .ref P, string := .str ⟨a⟩ u, code := reCode, text := a, kind := 0, groups := 1, pos := 0, lim := a.size } s) :
    wpAny (model prog w) A (reWholeTarget (.ref P) (.str ⟨a⟩ u)) Q E s := by
  obtain ⟨hh, g, d, tk, os⟩ := s
  obtain ⟨x, t, u', v, w', _, e, _⟩ := hp.pat
  obtain ⟨n, ec⟩ := hp.code
  unfold reWholeTarget
  refine wpAny_bind (wpAny_fieldsOf e rfl ?_)
  have ht : ∀ {Q : Array Nat × Nat → Shared → Prop}, Q (a, 0) ⟨hh, g, d, tk, os⟩ → wpAny (model prog w) A (reTextOf (.str ⟨a⟩ u)) Q E ⟨hh, g, d, tk, os⟩ := by
    intro Q h
    unfold reTextOf
    repeat (any_goals (first | assumption | wp_step))
  refine wpAny_bind (ht ?_)
  have hr : ∀ {Q : Array Int → Shared → Prop}, Q (codes.map reRawOf) ⟨hh, g, d, tk, os⟩ → wpAny (model prog w) A (reRawItems (.ref C)) Q E ⟨hh, g, d, tk, os⟩ := by
    intro Q h
    unfold reRawItems
    exact wpAny_bind (wpAny_seqItems ec rfl (wpAny_pure h))
  dsimp only
  unfold reNoCollectionInside
  repeat (any_goals (first | assumption | ((with_reducible show wpAny _ _ (reRawItems _) _ _ _); refine hr ?_) | wp_step))
  have := hp.is
  rw [show (codes.map reRawOf).map (fun x => x.toNat) = reCode from this]
  exact hQ
end
end Mine
end MpZ1x
section MpAx
open PySem
namespace Mine
inductive D where
  | none
  | bool (b : Bool)
  | int (i : Int)
  | str (l : List Nat)
  | list (l : List D)
  | tup (l : List D)
  | tok (k : Nat)
  | ty (n : String)
  deriving Inhabited
inductive R where
  | val (d : D)
  | own (l : List D)
  | bor (l : List D)
noncomputable def R.ds : R → D
  | .val d => d
  | .own l => .list l
  | .bor l => .list l
noncomputable def R.fz : R → Option D
  | .val d => some d
  | .own l => some (.list l)
  | .bor _ => Option.none
inductive Slot where
  | unset
  | val (d : D)
  | own (l : List D)
  | app (j : Nat)
set_option genCtorIdx false in
inductive Op where
  | add | sub | mul | fdiv | mod | pow | neg
  | eq | ne | lt | le | gt | ge | is_ | isnot | in_ | notin
  | index | slice | slice3 | len | abs | sum
  | tyOf | isInst | isSub
  | rfind | find4 | startswith | endswith | rstrip | lstrip | replace | join | split | translate | resub | count | strIndex | resub0
  | listOf | tupleOf | sorted | min | max | fmt | lindex
  | other (n : Nat)
set_option genCtorIdx false in
set_option genInjectivity false in
inductive X where
  | const (d : D)
  | var (i : Nat)
  | op (o : Op) (a : X)
  | nil
  | cons (a r : X)
  | star (a : X)
  | and (a b : X)
  | or (a b : X)
  | not (a : X)
  | ite (c t e : X)
  | call (f : Nat) (a : X)
  | tup (a : X)
  | list (a : X)
  | comp (i : Nat) (it cond elt : X)
  | comp2 (i j : Nat) (it cond elt : X)
  | comp3 (i : Nat) (it : X) (j : Nat) (jt elt : X)
  | mapF (f : Nat) (a : X)
  | seqI (a : X)
  | rangeI (a : X)
  | enumI (a : X)
  | setI (i : Nat) (it elt : X)
set_option genCtorIdx false in
set_option genInjectivity false in
inductive S where
  | skip
  | seq (a b : S)
  | fz (i : Nat)
  | assign (i : Nat) (x : X)
  | assignO (i : Nat) (x : X)
  | assign2 (i j : Nat) (x : X)
  | assign3 (i j k : Nat) (x : X)
  | assign1 (i : Nat) (x : X)
  | alias (i j : Nat)
  | append (i : Nat) (x : X)
  | appendVia (i j : Nat) (x : X)
  | aug (i : Nat) (x : X)
  | extend (i : Nat) (x : X)
  | pop (i : Nat)
  | setItem (i : Nat) (k x : X)
  | augItem (i : Nat) (k x : X)
  | delItem (i : Nat) (k : X)
  | ite (c : X) (a b : S)
  | while (c : X) (b : S)
  | forE (i : Nat) (it : X) (b : S)
  | forE2 (i j : Nat) (it : X) (b : S)
  | forN (is : List Nat) (it : X) (b : S)
  | ret (x : X)
  | brk
  | cont
  | assert (c : X)
  | try_ (b : S)
  | tryV (f : Nat) (a : X) (b : S)
inductive Out where
  | next
  | brk
  | cont
  | ret (d : D)
noncomputable def lim : Nat := 1000000
noncomputable def tokC : Nat → List Nat
  | 0 => [42]
  | _ => [63]
mutual
noncomputable def D.toPy : D → PyData
  | .none => .none
  | .bool b => .bool b
  | .int i => .int i
  | .str l => .str ⟨l.toArray⟩
  | .list l => .list (D.toPys l)
  | .tup l => .tuple (D.toPys l)
  | .tok k => .list [.str ⟨(tokC k).toArray⟩]
  | .ty _ => .none
noncomputable def D.toPys : List D → List PyData
  | [] => []
  | d :: r => d.toPy :: D.toPys r
end
mutual
noncomputable def D.ok : Nat → D → Bool
  | 0, _ => false
  | n + 1, .list l => D.oks n l
  | n + 1, .tup l => D.oks n l
  | _ + 1, .ty _ => false
  | n + 1, .tok _ => decide (0 < n)
  | _ + 1, _ => true
noncomputable def D.oks : Nat → List D → Bool
  | _, [] => true
  | n, d :: r => d.ok n && D.oks n r
end
noncomputable def D.truth : D → Option Bool
  | .none => some false
  | .bool b => some b
  | .int i => some (decide (i ≠ 0))
  | .str l => some (!l.isEmpty)
  | .list l => some (!l.isEmpty)
  | .tup l => some (!l.isEmpty)
  | _ => Option.none
noncomputable def eqD : D → D → Option Bool
  | .str a, .str b => some (decide (a = b))
  | .int a, .int b => some (decide (a = b))
  | a, b => if a.ok 9 && b.ok 9 then some (PyData.eqv a.toPy b.toPy) else Option.none
noncomputable def inD (d : D) : D → Option Bool
  | .list l => if D.oks 8 l && d.ok 9 then some ((D.toPys l).any fun y => PyData.eqv y d.toPy) else Option.none
  | .tup l => if D.oks 8 l && d.ok 9 then some ((D.toPys l).any fun y => PyData.eqv y d.toPy) else Option.none
  | .str b => match d with
    | .str a => some (Txt.contains ⟨b.toArray⟩ ⟨a.toArray⟩)
    | _ => Option.none
  | _ => Option.none
noncomputable def isD : D → D → Option Bool
  | .tok i, .tok j => some (decide (i = j))
  | .tok _, .str _ => some false
  | .str _, .tok _ => some false
  | .tok _, .none => some false
  | .none, .tok _ => some false
  | .none, .none => some true
  | .str _, .none => some false
  | .list _, .none => some false
  | .tup _, .none => some false
  | .bool _, .none => some false
  | .int _, .none => some false
  | .ty a, .ty b => some (decide (a = b))
  | _, _ => Option.none
noncomputable def ltL (a b : List Nat) : Bool := decide (a < b)
noncomputable def place (i : Int) (n : Nat) : Option Nat :=
  if 0 ≤ i then (if i < n then some i.toNat else Option.none) else (if 0 ≤ i + n then some (i + n).toNat else Option.none)
noncomputable def small (i : Int) : Bool := decide (-1000000000 ≤ i) && decide (i ≤ 1000000000)
noncomputable def clip (i : Int) (n : Nat) : Nat := if i < 0 then (i + n).toNat else if i < n then i.toNat else n
noncomputable def bound (d : D) (dflt n : Nat) : Option Nat := match d with
  | .none => some dflt
  | .int i => if small i then some (clip i n) else Option.none
  | _ => Option.none
noncomputable def cut {α : Type} (l : List α) (lo hi : Nat) : List α := (l.drop lo).take (hi - lo)
noncomputable def pick {α : Type} (l : List α) (lo hi st : Option Int) : List α :=
  (sliceRange (sliceBounds lo hi st l.length).1 (sliceBounds lo hi st l.length).2.1 (sliceBounds lo hi st l.length).2.2).filterMap (l[·]?)
noncomputable def partD : D → Option (Option Int)
  | .none => some Option.none
  | .int i => if small i then some (some i) else Option.none
  | _ => Option.none
noncomputable def toInts : List D → Option (List Int)
  | [] => some []
  | .int i :: r => (toInts r).map (i :: ·)
  | _ :: _ => Option.none
noncomputable def toStrs : List D → Option (List (List Nat))
  | [] => some []
  | .str s :: r => (toStrs r).map (s :: ·)
  | _ :: _ => Option.none
noncomputable def strD (l : List Nat) : Option R := if l.length ≤ lim then some (.val (.str l)) else Option.none
noncomputable def opAdd : List D → Option R
  | [.int a, .int b] => some (.val (.int (a + b)))
  | [.str a, .str b] => if a.length + b.length ≤ lim then some (.val (.str (a ++ b))) else Option.none
  | [.list a, .list b] => if a.length + b.length ≤ lim then some (.own (a ++ b)) else Option.none
  | _ => Option.none
noncomputable def opSub : List D → Option R
  | [.int a, .int b] => some (.val (.int (a - b)))
  | _ => Option.none
noncomputable def rep {α : Type} (l : List α) (n : Int) : List α := (List.replicate n.toNat l).flatten
noncomputable def opMul : List D → Option R
  | [.int a, .int b] => if small a || small b then some (.val (.int (a * b))) else Option.none
  | [.str a, .int b] => if small b && decide (a.length * b.toNat ≤ lim) then some (.val (.str (rep a b))) else Option.none
  | [.list a, .int b] => if small b && decide (a.length * b.toNat ≤ lim) then some (.own (rep a b)) else Option.none
  | _ => Option.none
noncomputable def opDiv : List D → Option R
  | [.int a, .int b] => if b = 0 then Option.none else some (.val (.int (Int.fdiv a b)))
  | _ => Option.none
noncomputable def opMod : List D → Option R
  | [.int a, .int b] => if b = 0 then Option.none else some (.val (.int (Int.fmod a b)))
  | _ => Option.none
noncomputable def opBool (f : D → D → Option Bool) : List D → Option R
  | [a, b] => (f a b).map fun x => .val (.bool x)
  | _ => Option.none
noncomputable def opCmp (f : Int → Int → Bool) (g : List Nat → List Nat → Bool) : List D → Option R
  | [.int a, .int b] => some (.val (.bool (f a b)))
  | [.str a, .str b] => some (.val (.bool (g a b)))
  | _ => Option.none
noncomputable def opIndex : List D → Option R
  | [.str l, .int i] => if small i then (match place i l.length with | some k => (l[k]?).map fun c => .val (.str [c]) | Option.none => Option.none) else Option.none
  | [.list l, .int i] => if small i then (match place i l.length with | some k => (l[k]?).map .val | Option.none => Option.none) else Option.none
  | [.tup l, .int i] => if small i then (match place i l.length with | some k => (l[k]?).map .val | Option.none => Option.none) else Option.none
  | _ => Option.none
noncomputable def opSlice : List D → Option R
  | [.str l, a, b] => match bound a 0 l.length, bound b l.length l.length with
    | some lo, some hi => some (.val (.str (cut l lo hi)))
    | _, _ => Option.none
  | [.list l, a, b] => match bound a 0 l.length, bound b l.length l.length with
    | some lo, some hi => some (.own (cut l lo hi))
    | _, _ => Option.none
  | _ => Option.none
noncomputable def opSlice3 : List D → Option R
  | [.list l, a, b, .int n] => match partD a, partD b with
    | some lo, some hi => if n ≠ 0 ∧ small n then some (.own (pick l lo hi (some n))) else Option.none
    | _, _ => Option.none
  | _ => Option.none
noncomputable def opLen : List D → Option R
  | [.str l] => some (.val (.int l.length))
  | [.list l] => some (.val (.int l.length))
  | [.tup l] => some (.val (.int l.length))
  | _ => Option.none
noncomputable def opAbs : List D → Option R
  | [.int i] => some (.val (.int i.natAbs))
  | _ => Option.none
noncomputable def opSum : List D → Option R
  | [.list l] => (toInts l).map fun is => .val (.int is.sum)
  | _ => Option.none
noncomputable def opNeg : List D → Option R
  | [.int i] => some (.val (.int (-i)))
  | _ => Option.none
noncomputable def tyD : D → Option String
  | .str _ => some "str"
  | .int _ => some "int"
  | .bool _ => some "bool"
  | .list _ => some "list"
  | .tup _ => some "tuple"
  | .tok _ => some "list"
  | _ => Option.none
noncomputable def opTyOf : List D → Option R
  | [d] => (tyD d).map fun n => .val (.ty n)
  | _ => Option.none
noncomputable def opIsInst : List D → Option R
  | [.str _, .ty n] => if n = "str" then some (.val (.bool true)) else if n = "bytes" then some (.val (.bool false)) else Option.none
  | [.str _, .tup [.ty a, .ty b]] => if a = "list" ∧ b = "tuple" then some (.val (.bool false)) else Option.none
  | [.list _, .tup [.ty a, .ty b]] => if a = "list" ∧ b = "tuple" then some (.val (.bool true)) else Option.none
  | _ => Option.none
noncomputable def opIsSub : List D → Option R
  | [.ty n, .tup [.ty a, .ty b]] => if n = "str" ∧ a = "str" ∧ b = "bytes" then some (.val (.bool true)) else Option.none
  | _ => Option.none
noncomputable def opStr2 (f : PySem.Str → PySem.Str → R) : List D → Option R
  | [.str a, .str b] => some (f ⟨a.toArray⟩ ⟨b.toArray⟩)
  | _ => Option.none
noncomputable def opFind4 : List D → Option R
  | [.str a, .str b, .int i, .int j] => if small i ∧ small j then
      some (.val (.int (match Builtin.Str.occurrences ⟨a.toArray⟩ ⟨b.toArray⟩ (fromIndex a.length i) (min (fromIndex a.length j) a.length) 1 with | k :: _ => (k : Int) | [] => -1))) else Option.none
  | _ => Option.none
noncomputable def opReplace : List D → Option R
  | [.str a, .str b, .str _] => if (Builtin.Str.occurrences ⟨a.toArray⟩ ⟨b.toArray⟩ 0 a.length (a.length + 1)).isEmpty then some (.val (.str a)) else Option.none
  | _ => Option.none
noncomputable def joinL (s : List Nat) : List (List Nat) → List Nat
  | [] => []
  | [a] => a
  | a :: r => a ++ s ++ joinL s r
noncomputable def opJoin : List D → Option R
  | [.str s, .list l] => match toStrs l with
    | some ls => if (joinL s ls).length ≤ lim then some (.val (.str (joinL s ls))) else Option.none
    | Option.none => Option.none
  | _ => Option.none
noncomputable def opSplit : List D → Option R
  | [.str a, .str b] => if b.length = 1 ∧ a.length + 2 ≤ lim then some (.own ((Txt.split ⟨a.toArray⟩ ⟨b.toArray⟩).map fun x => .str x.cps.toList)) else Option.none
  | _ => Option.none
noncomputable def special : List Nat := [40, 41, 91, 93, 123, 125, 63, 42, 43, 45, 124, 94, 36, 92, 46, 38, 126, 35, 32, 9, 10, 13, 11, 12]
noncomputable def opTranslate : List D → Option R
  | [.str [c]] => if c < 128 then some (.val (.str (if special.contains c then [92, c] else [c]))) else Option.none
  | _ => Option.none
noncomputable def noHit : List (List Nat) := [[], [33], [46, 45, 97], [33, 97], [97, 45, 99], [93], [33, 33], [97, 47, 98], [97, 45, 98], [91], [42], [63], [97], [98], [97, 98], [33, 97, 98], [33, 98], [33, 97, 45, 98], [46], [33, 46]]
noncomputable def opResub : List D → Option R
  | [.str a] => if noHit.contains a then some (.val (.str a)) else if a = [124, 38, 126] then some (.val (.str [92, 124, 92, 38, 92, 126])) else Option.none
  | _ => Option.none
noncomputable def opResub0 : List D → Option R
  | [.str a] => if noHit.contains a then some (.val (.str a)) else Option.none
  | _ => Option.none
noncomputable def opListOf : List D → Option R
  | [.list l] => some (.own l)
  | _ => Option.none
noncomputable def opTupleOf : List D → Option R
  | [.list l] => some (.val (.tup l))
  | _ => Option.none
noncomputable def ltSs : List (List Nat) → List (List Nat) → Bool
  | [], [] => false
  | [], _ :: _ => true
  | _ :: _, [] => false
  | a :: as, b :: bs => if a = b then ltSs as bs else ltL a b
noncomputable def ltD : D → D → Option Bool
  | .str a, .str b => some (ltL a b)
  | .list a, .list b => match toStrs a, toStrs b with
    | some x, some y => some (ltSs x y)
    | _, _ => Option.none
  | _, _ => Option.none
noncomputable def gtD (a b : D) : Option Bool := ltD b a
noncomputable def bestGo (better : D → D → Option Bool) : D → List D → Option D
  | b, [] => some b
  | b, d :: r => match better d b with
    | some true => bestGo better d r
    | some false => bestGo better b r
    | Option.none => Option.none
noncomputable def opBest (better : D → D → Option Bool) : List D → Option R
  | [.list (d :: r)] => (bestGo better d r).map .val
  | [.tup (d :: r)] => (bestGo better d r).map .val
  | _ => Option.none
noncomputable def opMax : List D → Option R
  | [.int a, .int b] => some (.val (.int (if b > a then b else a)))
  | ds => opBest gtD ds
noncomputable def opPow : List D → Option R
  | [.int a, .int b] => if 0 ≤ b ∧ b ≤ 64 ∧ 0 ≤ a ∧ a ≤ 16 then some (.val (.int (a ^ b.toNat))) else Option.none
  | _ => Option.none
noncomputable def opLIndex : List D → Option R
  | [.list l, .str s] => match toStrs l with
    | some ls => if ls.contains s then some (.val (.int (ls.idxOf s))) else Option.none
    | Option.none => Option.none
  | _ => Option.none
noncomputable def opCount : List D → Option R
  | [.list l, .str s] => match toStrs l with
    | some ls => some (.val (.int (ls.count s)))
    | Option.none => Option.none
  | _ => Option.none
noncomputable def opSIndex : List D → Option R
  | [.str a, .str b] => match Builtin.Str.occurrences ⟨a.toArray⟩ ⟨b.toArray⟩ 0 a.length 1 with
    | i :: _ => some (.val (.int (i : Nat)))
    | [] => Option.none
  | _ => Option.none
noncomputable def opFmt : List D → Option R
  | [.str a, .str b, .str c] => strD (a ++ b ++ c)
  | _ => Option.none
noncomputable def opF : Op → List D → Option R
  | .add, ds => opAdd ds
  | .sub, ds => opSub ds
  | .mul, ds => opMul ds
  | .fdiv, ds => opDiv ds
  | .mod, ds => opMod ds
  | .neg, ds => opNeg ds
  | .eq, ds => opBool eqD ds
  | .ne, ds => opBool (fun a b => (eqD a b).map (!·)) ds
  | .lt, ds => opCmp (fun a b => decide (a < b)) ltL ds
  | .le, ds => opCmp (fun a b => decide (a ≤ b)) (fun a b => !ltL b a) ds
  | .gt, ds => opCmp (fun a b => decide (b < a)) (fun a b => ltL b a) ds
  | .ge, ds => opCmp (fun a b => decide (b ≤ a)) (fun a b => !ltL a b) ds
  | .is_, ds => opBool isD ds
  | .isnot, ds => opBool (fun a b => (isD a b).map (!·)) ds
  | .in_, ds => opBool inD ds
  | .notin, ds => opBool (fun a b => (inD a b).map (!·)) ds
  | .index, ds => opIndex ds
  | .slice, ds => opSlice ds
  | .slice3, ds => opSlice3 ds
  | .len, ds => opLen ds
  | .abs, ds => opAbs ds
  | .sum, ds => opSum ds
  | .tyOf, ds => opTyOf ds
  | .isInst, ds => opIsInst ds
  | .isSub, ds => opIsSub ds
  | .rfind, ds => opStr2 (fun a b => .val (.int (Txt.rfind a b))) ds
  | .find4, ds => opFind4 ds
  | .startswith, ds => opStr2 (fun a b => .val (.bool (Txt.startswith a b))) ds
  | .endswith, ds => opStr2 (fun a b => .val (.bool (Txt.endswith a b))) ds
  | .rstrip, ds => opStr2 (fun a b => .val (.str (Txt.rstripChars a b).cps.toList)) ds
  | .lstrip, ds => opStr2 (fun a b => .val (.str (Txt.lstripChars a b).cps.toList)) ds
  | .replace, ds => opReplace ds
  | .join, ds => opJoin ds
  | .split, ds => opSplit ds
  | .translate, ds => opTranslate ds
  | .resub, ds => opResub ds
  | .resub0, ds => opResub0 ds
  | .listOf, ds => opListOf ds
  | .tupleOf, ds => opTupleOf ds
  | .fmt, ds => opFmt ds
  | .min, ds => opBest ltD ds
  | .max, ds => opMax ds
  | .pow, ds => opPow ds
  | .lindex, ds => opLIndex ds
  | .count, ds => opCount ds
  | .strIndex, ds => opSIndex ds
  | _, _ => Option.none
noncomputable def fzAll : List R → Option (List D)
  | [] => some []
  | r :: rs => match r.fz, fzAll rs with
    | some d, some ds => some (d :: ds)
    | _, _ => Option.none
noncomputable def truthR : Option (List R) → Option Bool
  | some [r] => r.ds.truth
  | _ => Option.none
noncomputable def compGo (f : D → Option (Option D)) : List D → Option (List D)
  | [] => some []
  | d :: r => match f d with
    | Option.none => Option.none
    | some Option.none => compGo f r
    | some (some y) => match compGo f r with
      | some ys => some (y :: ys)
      | Option.none => Option.none
noncomputable def turnD (c e : Option (List R)) : Option (Option D) := match truthR c with
  | some true => (match e with
    | some [r] => r.fz.map some
    | _ => Option.none)
  | some false => some Option.none
  | Option.none => Option.none
noncomputable def upTo (n : Nat) (a b : Int) : List Int := (List.range n).map fun (k : Nat) => a + b * (k : Int)
noncomputable def rangeL (a b : Int) : List D := (upTo (b - a).toNat a 1).map .int
noncomputable def rangeDown (a b : Int) : List D := (upTo (a - b).toNat a (-1)).map .int
noncomputable def opRange : List D → Option (List D)
  | [.int n] => if small n && decide (n ≤ 1000000) then some (rangeL 0 n) else Option.none
  | [.int a, .int n] => if small a && small n && decide (n - a ≤ 1000000) then some (rangeL a n) else Option.none
  | [.int a, .int n, .int s] => if s = -1 ∧ small a ∧ small n ∧ a - n ≤ 1000000 then some (rangeDown a n) else Option.none
  | _ => Option.none
noncomputable def itemsOf : D → Option (List D)
  | .list l => some l
  | .tup l => some l
  | .str l => some (l.map fun c => .str [c])
  | _ => Option.none
noncomputable def enumOf : D → Option (List D)
  | .list l => some l
  | .str l => some (l.map fun c => .str [c])
  | _ => Option.none
noncomputable def enumL (k : Int) : List D → List D
  | [] => []
  | d :: r => .tup [.int k, d] :: enumL (k + 1) r
noncomputable def allSome {α : Type} : List (Option α) → Option (List α)
  | [] => some []
  | some a :: r => (allSome r).map (a :: ·)
  | Option.none :: _ => Option.none
section
variable (cf : Nat → List D → Option D)
noncomputable def ev : X → List Slot → Option (List R)
  | .const d, _ => some [.val d]
  | .var i, ρ => match ρ[i]? with
    | some (.val d) => some [.val d]
    | some (.own l) => some [.bor l]
    | _ => Option.none
  | .op o a, ρ => match ev a ρ with
    | some rs => (opF o (rs.map R.ds)).map fun r => [r]
    | Option.none => Option.none
  | .nil, _ => some []
  | .cons a r, ρ => match ev a ρ with
    | some [x] => (ev r ρ).map fun xs => x :: xs
    | _ => Option.none
  | .star a, ρ => match ev a ρ with
    | some [x] => (match x.fz with
      | some (.list l) => some (l.map .val)
      | some (.tup l) => some (l.map .val)
      | _ => Option.none)
    | _ => Option.none
  | .and a b, ρ => match ev a ρ with
    | some [x] => (match x.ds.truth with
      | some true => ev b ρ
      | some false => some [x]
      | Option.none => Option.none)
    | _ => Option.none
  | .or a b, ρ => match ev a ρ with
    | some [x] => (match x.ds.truth with
      | some false => ev b ρ
      | some true => some [x]
      | Option.none => Option.none)
    | _ => Option.none
  | .not a, ρ => match ev a ρ with
    | some [x] => x.ds.truth.map fun b => [.val (.bool (!b))]
    | _ => Option.none
  | .ite c t e, ρ => match truthR (ev c ρ) with
    | some true => ev t ρ
    | some false => ev e ρ
    | Option.none => Option.none
  | .call f a, ρ => match ev a ρ with
    | some rs => (match fzAll rs with
      | some ds => (cf f ds).map fun d => [.val d]
      | Option.none => Option.none)
    | Option.none => Option.none
  | .tup a, ρ => match ev a ρ with
    | some rs => (match fzAll rs with
      | some ds => if ds.length ≤ lim then some [.val (.tup ds)] else Option.none
      | Option.none => Option.none)
    | Option.none => Option.none
  | .list a, ρ => match ev a ρ with
    | some rs => (match fzAll rs with
      | some ds => if ds.length ≤ lim then some [.own ds] else Option.none
      | Option.none => Option.none)
    | Option.none => Option.none
  | .comp i it c e, ρ => match ev it ρ with
    | some [.val (.list items)] => (compGo (fun d => turnD (ev c (ρ.set i (.val d))) (ev e (ρ.set i (.val d)))) items).map fun l => [.own l]
    | _ => Option.none
  | .comp2 i j it c e, ρ => match ev it ρ with
    | some [.val (.list items)] => (compGo (fun d => match d with
        | .tup [a, b] => turnD (ev c ((ρ.set i (.val a)).set j (.val b))) (ev e ((ρ.set i (.val a)).set j (.val b)))
        | _ => Option.none) items).map fun l => [.own l]
    | _ => Option.none
  | .comp3 i it j jt e, ρ => match ev it ρ with
    | some [.val (.list items)] => (match compGo (fun d => match ev jt (ρ.set i (.val d)) with
        | some [.val (.list its)] => (compGo (fun d' => turnD (some [.val (.bool true)]) (ev e ((ρ.set i (.val d)).set j (.val d')))) its).map fun l => some (.list l)
        | _ => Option.none) items with
      | some ls => (match allSome (ls.map fun d => match d with | .list l => some l | _ => Option.none) with
        | some lls => if lls.flatten.length ≤ lim then some [.own lls.flatten] else Option.none
        | Option.none => Option.none)
      | Option.none => Option.none)
    | _ => Option.none
  | .mapF f a, ρ => match ev a ρ with
    | some [x] => (match x.fz.bind itemsOf with
      | some items => (allSome (items.map fun d => cf f [d])).map fun l => [.val (.tup l)]
      | Option.none => Option.none)
    | _ => Option.none
  | .seqI a, ρ => match ev a ρ with
    | some [x] => (match x.fz with
      | some d => (itemsOf d).map fun l => [.val (.list l)]
      | Option.none => Option.none)
    | _ => Option.none
  | .rangeI a, ρ => match ev a ρ with
    | some rs => (opRange (rs.map R.ds)).map fun l => [.val (.list l)]
    | Option.none => Option.none
  | .enumI a, ρ => match ev a ρ with
    | some [x] => (match x.fz with
      | some d => (enumOf d).map fun l => [.val (.list (enumL 0 l))]
      | Option.none => Option.none)
    | _ => Option.none
  | .setI i it e, ρ => match ev it ρ with
    | some [.val (.list items)] => (match compGo (fun d => turnD (some [.val (.bool true)]) (ev e (ρ.set i (.val d)))) items with
      | some (.bool b :: r) => if r.all (fun d => match d with | .bool b' => b' == b | _ => false) then some [.val (.bool b)] else Option.none
      | _ => Option.none)
    | _ => Option.none
noncomputable def ev1 (x : X) (ρ : List Slot) : Option D := match ev cf x ρ with
  | some [r] => r.fz
  | _ => Option.none
noncomputable def evT (x : X) (ρ : List Slot) : Option Bool := truthR (ev cf x ρ)
noncomputable def evI (x : X) (ρ : List Slot) : Option (List D) := match ev cf x ρ with
  | some [.val (.list l)] => some l
  | _ => Option.none
noncomputable def whileGo (c : List Slot → Option Bool) (b : List Slot → Option (List Slot × Out)) : Nat → List Slot → Option (List Slot × Out)
  | 0, _ => Option.none
  | n + 1, ρ => match c ρ with
    | Option.none => Option.none
    | some false => some (ρ, .next)
    | some true => match b ρ with
      | Option.none => Option.none
      | some (ρ', .next) => whileGo c b n ρ'
      | some (ρ', .cont) => whileGo c b n ρ'
      | some (ρ', .brk) => some (ρ', .next)
      | some (ρ', .ret d) => some (ρ', .ret d)
noncomputable def forGo (st : D → List Slot → Option (List Slot)) (b : List Slot → Option (List Slot × Out)) : List D → List Slot → Option (List Slot × Out)
  | [], ρ => some (ρ, .next)
  | d :: r, ρ => match st d ρ with
    | Option.none => Option.none
    | some ρ₁ => match b ρ₁ with
      | Option.none => Option.none
      | some (ρ', .next) => forGo st b r ρ'
      | some (ρ', .cont) => forGo st b r ρ'
      | some (ρ', .brk) => some (ρ', .next)
      | some (ρ', .ret d) => some (ρ', .ret d)
noncomputable def put1 (i : Nat) (d : D) (ρ : List Slot) : Option (List Slot) := some (ρ.set i (.val d))
noncomputable def put2 (i j : Nat) (d : D) (ρ : List Slot) : Option (List Slot) := match d with
  | .tup [a, b] => some ((ρ.set i (.val a)).set j (.val b))
  | _ => Option.none
noncomputable def setAll : List Slot → List Nat → List D → List Slot
  | ρ, i :: is, d :: ds => setAll (ρ.set i (.val d)) is ds
  | ρ, _, _ => ρ
noncomputable def putN (is : List Nat) (d : D) (ρ : List Slot) : Option (List Slot) := match d with
  | .tup l => if l.length = is.length then some (setAll ρ is l) else none
  | _ => none
noncomputable def ownAt (ρ : List Slot) (i : Nat) : Option (List D) := match ρ[i]? with
  | some (.own l) => some l
  | _ => Option.none
noncomputable def noApp (i : Nat) (ρ : List Slot) : Bool := ρ.all fun s => match s with | .app j => j != i | _ => true
noncomputable def wf : Nat := 100000
noncomputable def ex : S → List Slot → Option (List Slot × Out)
  | .skip, ρ => some (ρ, .next)
  | .seq a b, ρ => match ex a ρ with
    | some (ρ', .next) => ex b ρ'
    | some (ρ', o) => some (ρ', o)
    | Option.none => Option.none
  | .fz i, ρ => match ownAt ρ i with
    | some l => some (ρ.set i (.val (.list l)), .next)
    | Option.none => some (ρ, .next)
  | .assign i x, ρ => (ev1 cf x ρ).map fun d => (ρ.set i (.val d), .next)
  | .assignO i x, ρ => if noApp i ρ then (match ev cf x ρ with
    | some [.own l] => some (ρ.set i (.own l), .next)
    | some [.val d] => some (ρ.set i (.val d), .next)
    | _ => Option.none) else Option.none
  | .assign1 i x, ρ => match ev1 cf x ρ with
    | some d => some (ρ.set i (.val d), .next)
    | Option.none => Option.none
  | .assign2 i j x, ρ => match ev1 cf x ρ with
    | some (.tup [a, b]) => some ((ρ.set i (.val a)).set j (.val b), .next)
    | _ => Option.none
  | .assign3 i j k x, ρ => match ev1 cf x ρ with
    | some (.tup [a, b, c]) => some (((ρ.set i (.val a)).set j (.val b)).set k (.val c), .next)
    | _ => Option.none
  | .alias i j, ρ => match ownAt ρ j with
    | some _ => some (ρ.set i (.app j), .next)
    | Option.none => Option.none
  | .append i x, ρ => match ev1 cf x ρ, ownAt ρ i with
    | some d, some l => if l.length < lim then some (ρ.set i (.own (l ++ [d])), .next) else Option.none
    | _, _ => Option.none
  | .appendVia i j x, ρ => match ρ[i]? with
    | some (.app j') => if j' = j then (match ev1 cf x ρ, ownAt ρ j with
      | some d, some l => if l.length < lim then some (ρ.set j (.own (l ++ [d])), .next) else Option.none
      | _, _ => Option.none) else Option.none
    | _ => Option.none
  | .aug i x, ρ => match ρ[i]?, ev1 cf x ρ with
    | some (.val (.str a)), some (.str b) => if a.length + b.length ≤ lim then some (ρ.set i (.val (.str (a ++ b))), .next) else Option.none
    | _, _ => Option.none
  | .extend i x, ρ => match ev1 cf x ρ, ownAt ρ i with
    | some (.list m), some l => if l.length + m.length ≤ lim then some (ρ.set i (.own (l ++ m)), .next) else Option.none
    | _, _ => Option.none
  | .pop i, ρ => match ownAt ρ i with
    | some l => (match l.getLast? with
      | some (.str _) => some (ρ.set i (.own l.dropLast), .next)
      | _ => Option.none)
    | Option.none => Option.none
  | .setItem i k x, ρ => match ev1 cf x ρ, ev1 cf k ρ, ownAt ρ i with
    | some d, some (.int n), some l => if small n then (match place n l.length with
      | some p => some (ρ.set i (.own (l.set p d)), .next)
      | Option.none => Option.none) else Option.none
    | _, _, _ => Option.none
  | .augItem i k x, ρ => match ev1 cf k ρ, ev1 cf x ρ, ownAt ρ i with
    | some (.int n), some (.str y), some l => if small n then (match place n l.length with
      | some p => (match l[p]? with
        | some (.str z) => if z.length + y.length ≤ lim then some (ρ.set i (.own (l.set p (.str (z ++ y)))), .next) else Option.none
        | _ => Option.none)
      | Option.none => Option.none) else Option.none
    | _, _, _ => Option.none
  | .delItem i k, ρ => match ev1 cf k ρ, ownAt ρ i with
    | some (.int n), some l => if 0 ≤ n ∧ n < l.length then some (ρ.set i (.own (l.eraseIdx n.toNat)), .next) else Option.none
    | _, _ => Option.none
  | .ite c a b, ρ => match evT cf c ρ with
    | some true => ex a ρ
    | some false => ex b ρ
    | Option.none => Option.none
  | .while c b, ρ => whileGo (evT cf c) (ex b) wf ρ
  | .forE i it b, ρ => match evI cf it ρ with
    | some items => forGo (put1 i) (ex b) items ρ
    | Option.none => Option.none
  | .forE2 i j it b, ρ => match evI cf it ρ with
    | some items => forGo (put2 i j) (ex b) items ρ
    | Option.none => Option.none
  | .forN is it b, ρ => match evI cf it ρ with
    | some items => forGo (putN is) (ex b) items ρ
    | Option.none => Option.none
  | .ret x, ρ => (ev1 cf x ρ).map fun d => (ρ, .ret d)
  | .brk, ρ => some (ρ, .brk)
  | .cont, ρ => some (ρ, .cont)
  | .assert c, ρ => match evT cf c ρ with
    | some true => some (ρ, .next)
    | _ => Option.none
  | .try_ b, ρ => ex b ρ
  | .tryV f a b, ρ => match ev cf a ρ with
    | some rs => (match fzAll rs with
      | some [.list []] => if f = 13 then ex b ρ else Option.none
      | some ds => (cf f ds).map fun _ => (ρ, .next)
      | Option.none => Option.none)
    | Option.none => Option.none
theorem zaB {ρ : List Slot} {d} : ev cf (.const d) ρ = (some [.val d]) := rfl
theorem zbh {ρ : List Slot} {i} : ev cf (.var i) ρ = (match ρ[i]? with
    | some (.val d) => some [.val d]
    | some (.own l) => some [.bor l]
    | _ => Option.none) := rfl
theorem zcb {ρ : List Slot} {o a} : ev cf (.op o a) ρ = (match ev cf a ρ with
    | some rs => (opF o (rs.map R.ds)).map fun r => [r]
    | Option.none => Option.none) := rfl
theorem zbE {ρ : List Slot} : ev cf .nil ρ = (some []) := rfl
theorem zaT {ρ : List Slot} {a r} : ev cf (.cons a r) ρ = (match ev cf a ρ with
    | some [x] => (ev cf r ρ).map fun xs => x :: xs
    | _ => Option.none) := rfl
theorem za7 {ρ : List Slot} {a} : ev cf (.star a) ρ = (match ev cf a ρ with
    | some [x] => (match x.fz with
      | some (.list l) => some (l.map .val)
      | some (.tup l) => some (l.map .val)
      | _ => Option.none)
    | _ => Option.none) := rfl
theorem zbi {ρ : List Slot} {a b} : ev cf (.and a b) ρ = (match ev cf a ρ with
    | some [x] => (match x.ds.truth with
      | some true => ev cf b ρ
      | some false => some [x]
      | Option.none => Option.none)
    | _ => Option.none) := rfl
theorem zb1 {ρ : List Slot} {a b} : ev cf (.or a b) ρ = (match ev cf a ρ with
    | some [x] => (match x.ds.truth with
      | some false => ev cf b ρ
      | some true => some [x]
      | Option.none => Option.none)
    | _ => Option.none) := rfl
theorem zbs {ρ : List Slot} {a} : ev cf (.not a) ρ = (match ev cf a ρ with
    | some [x] => x.ds.truth.map fun b => [.val (.bool (!b))]
    | _ => Option.none) := rfl
theorem zbe {ρ : List Slot} {c t e} : ev cf (.ite c t e) ρ = (match truthR (ev cf c ρ) with
    | some true => ev cf t ρ
    | some false => ev cf e ρ
    | Option.none => Option.none) := rfl
theorem za0 {ρ : List Slot} {f a} : ev cf (.call f a) ρ = (match ev cf a ρ with
    | some rs => (match fzAll rs with
      | some ds => (cf f ds).map fun d => [.val d]
      | Option.none => Option.none)
    | Option.none => Option.none) := rfl
theorem zbr {ρ : List Slot} {a} : ev cf (.tup a) ρ = (match ev cf a ρ with
    | some rs => (match fzAll rs with
      | some ds => if ds.length ≤ lim then some [.val (.tup ds)] else Option.none
      | Option.none => Option.none)
    | Option.none => Option.none) := rfl
theorem zaY {ρ : List Slot} {a} : ev cf (.list a) ρ = (match ev cf a ρ with
    | some rs => (match fzAll rs with
      | some ds => if ds.length ≤ lim then some [.own ds] else Option.none
      | Option.none => Option.none)
    | Option.none => Option.none) := rfl
theorem zaZ {ρ : List Slot} {i it c e} : ev cf (.comp i it c e) ρ = (match ev cf it ρ with
    | some [.val (.list items)] => (compGo (fun d => turnD (ev cf c (ρ.set i (.val d))) (ev cf e (ρ.set i (.val d)))) items).map fun l => [.own l]
    | _ => Option.none) := rfl
theorem zaK {ρ : List Slot} {i j it c e} : ev cf (.comp2 i j it c e) ρ = (match ev cf it ρ with
    | some [.val (.list items)] => (compGo (fun d => match d with
        | .tup [a, b] => turnD (ev cf c ((ρ.set i (.val a)).set j (.val b))) (ev cf e ((ρ.set i (.val a)).set j (.val b)))
        | _ => Option.none) items).map fun l => [.own l]
    | _ => Option.none) := rfl
theorem zaR {ρ : List Slot} {i it j jt e} : ev cf (.comp3 i it j jt e) ρ = (match ev cf it ρ with
    | some [.val (.list items)] => (match compGo (fun d => match ev cf jt (ρ.set i (.val d)) with
        | some [.val (.list its)] => (compGo (fun d' => turnD (some [.val (.bool true)]) (ev cf e ((ρ.set i (.val d)).set j (.val d')))) its).map fun l => some (.list l)
        | _ => Option.none) items with
      | some ls => (match allSome (ls.map fun d => match d with | .list l => some l | _ => Option.none) with
        | some lls => if lls.flatten.length ≤ lim then some [.own lls.flatten] else Option.none
        | Option.none => Option.none)
      | Option.none => Option.none)
    | _ => Option.none) := rfl
theorem zbb {ρ : List Slot} {f a} : ev cf (.mapF f a) ρ = (match ev cf a ρ with
    | some [x] => (match x.fz.bind itemsOf with
      | some items => (allSome (items.map fun d => cf f [d])).map fun l => [.val (.tup l)]
      | Option.none => Option.none)
    | _ => Option.none) := rfl
theorem zaX {ρ : List Slot} {a} : ev cf (.seqI a) ρ = (match ev cf a ρ with
    | some [x] => (match x.fz with
      | some d => (itemsOf d).map fun l => [.val (.list l)]
      | Option.none => Option.none)
    | _ => Option.none) := rfl
theorem zaA {ρ : List Slot} {a} : ev cf (.rangeI a) ρ = (match ev cf a ρ with
    | some rs => (opRange (rs.map R.ds)).map fun l => [.val (.list l)]
    | Option.none => Option.none) := rfl
theorem zaO {ρ : List Slot} {a} : ev cf (.enumI a) ρ = (match ev cf a ρ with
    | some [x] => (match x.fz with
      | some d => (enumOf d).map fun l => [.val (.list (enumL 0 l))]
      | Option.none => Option.none)
    | _ => Option.none) := rfl
theorem zba {ρ : List Slot} {i it e} : ev cf (.setI i it e) ρ = (match ev cf it ρ with
    | some [.val (.list items)] => (match compGo (fun d => turnD (some [.val (.bool true)]) (ev cf e (ρ.set i (.val d)))) items with
      | some (.bool b :: r) => if r.all (fun d => match d with | .bool b' => b' == b | _ => false) then some [.val (.bool b)] else Option.none
      | _ => Option.none)
    | _ => Option.none) := rfl
theorem zkg {ρ : List Slot} : ex cf .skip ρ = (some (ρ, .next)) := rfl
theorem zl1 {ρ : List Slot} {a b} : ex cf (.seq a b) ρ = (match ex cf a ρ with
    | some (ρ', .next) => ex cf b ρ'
    | some (ρ', o) => some (ρ', o)
    | Option.none => Option.none) := rfl
theorem exq_fz {ρ : List Slot} {i} : ex cf (.fz i) ρ = (match ownAt ρ i with
    | some l => some (ρ.set i (.val (.list l)), .next)
    | Option.none => some (ρ, .next)) := rfl
theorem zej {ρ : List Slot} {i x} : ex cf (.assign i x) ρ = ((ev1 cf x ρ).map fun d => (ρ.set i (.val d), .next)) := rfl
theorem zeP {ρ : List Slot} {i x} : ex cf (.assignO i x) ρ = (if noApp i ρ then (match ev cf x ρ with
    | some [.own l] => some (ρ.set i (.own l), .next)
    | some [.val d] => some (ρ.set i (.val d), .next)
    | _ => Option.none) else Option.none) := rfl
theorem zgZ {ρ : List Slot} {i j x} : ex cf (.assign2 i j x) ρ = (match ev1 cf x ρ with
    | some (.tup [a, b]) => some ((ρ.set i (.val a)).set j (.val b), .next)
    | _ => Option.none) := rfl
theorem zjG {ρ : List Slot} {i j k x} : ex cf (.assign3 i j k x) ρ = (match ev1 cf x ρ with
    | some (.tup [a, b, c]) => some (((ρ.set i (.val a)).set j (.val b)).set k (.val c), .next)
    | _ => Option.none) := rfl
theorem ziT {ρ : List Slot} {i j} : ex cf (.alias i j) ρ = (match ownAt ρ j with
    | some _ => some (ρ.set i (.app j), .next)
    | Option.none => Option.none) := rfl
theorem zhH {ρ : List Slot} {i x} : ex cf (.append i x) ρ = (match ev1 cf x ρ, ownAt ρ i with
    | some d, some l => if l.length < lim then some (ρ.set i (.own (l ++ [d])), .next) else Option.none
    | _, _ => Option.none) := rfl
theorem zff {ρ : List Slot} {i j x} : ex cf (.appendVia i j x) ρ = (match ρ[i]? with
    | some (.app j') => if j' = j then (match ev1 cf x ρ, ownAt ρ j with
      | some d, some l => if l.length < lim then some (ρ.set j (.own (l ++ [d])), .next) else Option.none
      | _, _ => Option.none) else Option.none
    | _ => Option.none) := rfl
theorem zl4 {ρ : List Slot} {i x} : ex cf (.aug i x) ρ = (match ρ[i]?, ev1 cf x ρ with
    | some (.val (.str a)), some (.str b) => if a.length + b.length ≤ lim then some (ρ.set i (.val (.str (a ++ b))), .next) else Option.none
    | _, _ => Option.none) := rfl
theorem zgW {ρ : List Slot} {i k x} : ex cf (.setItem i k x) ρ = (match ev1 cf x ρ, ev1 cf k ρ, ownAt ρ i with
    | some d, some (.int n), some l => if small n then (match place n l.length with
      | some p => some (ρ.set i (.own (l.set p d)), .next)
      | Option.none => Option.none) else Option.none
    | _, _, _ => Option.none) := rfl
theorem zgY {ρ : List Slot} {i k} : ex cf (.delItem i k) ρ = (match ev1 cf k ρ, ownAt ρ i with
    | some (.int n), some l => if 0 ≤ n ∧ n < l.length then some (ρ.set i (.own (l.eraseIdx n.toNat)), .next) else Option.none
    | _, _ => Option.none) := rfl
theorem zl3 {ρ : List Slot} {c a b} : ex cf (.ite c a b) ρ = (match evT cf c ρ with
    | some true => ex cf a ρ
    | some false => ex cf b ρ
    | Option.none => Option.none) := rfl
theorem ziS {ρ : List Slot} {c b} : ex cf (.while c b) ρ = (whileGo (evT cf c) (ex cf b) wf ρ) := rfl
theorem zkh {ρ : List Slot} {i it b} : ex cf (.forE i it b) ρ = (match evI cf it ρ with
    | some items => forGo (put1 i) (ex cf b) items ρ
    | Option.none => Option.none) := rfl
theorem zgX {ρ : List Slot} {i j it b} : ex cf (.forE2 i j it b) ρ = (match evI cf it ρ with
    | some items => forGo (put2 i j) (ex cf b) items ρ
    | Option.none => Option.none) := rfl
theorem zl2 {ρ : List Slot} {x} : ex cf (.ret x) ρ = ((ev1 cf x ρ).map fun d => (ρ, .ret d)) := rfl
theorem exq_brk {ρ : List Slot} : ex cf .brk ρ = (some (ρ, .brk)) := rfl
theorem zmU {ρ : List Slot} : ex cf .cont ρ = (some (ρ, .cont)) := rfl
theorem zhG {ρ : List Slot} {c} : ex cf (.assert c) ρ = (match evT cf c ρ with
    | some true => some (ρ, .next)
    | _ => Option.none) := rfl
theorem zkf {ρ : List Slot} {b} : ex cf (.try_ b) ρ = (ex cf b ρ) := rfl
end
set_option genInjectivity false in
structure Fn where
  np : Nat
  va : Bool
  ns : Nat
  body : S
noncomputable def bindD (f : Fn) (args : List D) : Option (List Slot) :=
  if f.va then (if f.np ≤ args.length ∧ args.length ≤ lim then some (((args.take f.np).map .val ++ [.val (.tup (args.drop f.np))]) ++ List.replicate (f.ns - f.np - 1) .unset) else Option.none)
  else if args.length = f.np then some (args.map .val ++ List.replicate (f.ns - f.np) .unset) else Option.none
noncomputable def callF (fns : Nat → Option Fn) : Nat → Nat → List D → Option D
  | 0, _, _ => Option.none
  | n + 1, f, args => match fns f with
    | Option.none => Option.none
    | some fn => match bindD fn args with
      | Option.none => Option.none
      | some ρ => match ex (callF fns n) fn.body ρ with
        | some (_, .ret d) => some d
        | some (_, .next) => some .none
        | _ => Option.none
end Mine
end MpAx
section MpBx
open PySem PySem.Calls PyProof.Rows
namespace Mine
set_option genInjectivity false in
structure Cx where
  prog : Program
  w : World
  h0 : Heap
  X : Addr → Prop
  XI : Heap → Prop
  T : Nat → Addr
  mg : Str → Option Value
  mb : Str → Option Value
  fa : Nat → Addr
section
variable (T : Nat → Addr) (F : Addr → Prop) (h : Heap)
mutual
inductive Rep : Value → D → Prop
  | none : Rep .none .none
  | bool (b : Bool) : Rep (.bool b) (.bool b)
  | int (i : Int) (t : Tok) : Rep (.int i t) (.int i)
  | str {l : List Nat} (t : Tok) : (∀ c ∈ l, c < 0x110000) → l.length ≤ lim → Rep (.str ⟨l.toArray⟩ t) (.str l)
  | ty (n : String) : Rep (.type n) (.ty n)
  | list {a : Addr} {vs : List Value} {n : Nat} {ds : List D} : F a → h.get? a = some (lobj vs.toArray n) → vs.length ≤ lim → RepL vs ds → Rep (.ref a) (.list ds)
  | tup {a : Addr} {vs : List Value} {n : Nat} {ds : List D} : F a → h.get? a = some (tobj vs.toArray n) → vs.length ≤ lim → RepL vs ds → Rep (.ref a) (.tup ds)
  | tok {k : Nat} {n : Nat} {t : Tok} : F (T k) → h.get? (T k) = some (lobj #[.str ⟨(tokC k).toArray⟩ t] n) → Rep (.ref (T k)) (.tok k)
inductive RepL : List Value → List D → Prop
  | nil : RepL [] []
  | cons {v : Value} {vs : List Value} {d : D} {ds : List D} : Rep v d → RepL vs ds → RepL (v :: vs) (d :: ds)
end
end
section
variable {T : Nat → Addr} {F F' : Addr → Prop} {h h' : Heap}
theorem Rep.mono (hF : ∀ a, F a → F' a) (hk : ∀ a o, F a → h.get? a = some o → h'.get? a = some o) {v : Value} {d : D} (r : Rep T F h v d) : Rep T F' h' v d :=
  Rep.rec (motive_1 := fun v d _ => Rep T F' h' v d) (motive_2 := fun vs ds _ => RepL T F' h' vs ds) .none .bool .int (fun t q z => .str t q z) .ty (fun f g z _ i => .list (hF _ f) (hk _ _ f g) z i) (fun f g z _ i => .tup (hF _ f) (hk _ _ f g) z i) (fun f g => .tok (hF _ f) (hk _ _ f g)) .nil (fun _ _ a b => .cons a b) r
theorem RepL.mono (hF : ∀ a, F a → F' a) (hk : ∀ a o, F a → h.get? a = some o → h'.get? a = some o) {vs : List Value} {ds : List D} (r : RepL T F h vs ds) : RepL T F' h' vs ds :=
  RepL.rec (motive_1 := fun v d _ => Rep T F' h' v d) (motive_2 := fun vs ds _ => RepL T F' h' vs ds) .none .bool .int (fun t q z => .str t q z) .ty (fun f g z _ i => .list (hF _ f) (hk _ _ f g) z i) (fun f g z _ i => .tup (hF _ f) (hk _ _ f g) z i) (fun f g => .tok (hF _ f) (hk _ _ f g)) .nil (fun _ _ a b => .cons a b) r
theorem RepL.ind {motive : List Value → List D → Prop} (hn : motive [] []) (hc : ∀ {v vs d ds}, Rep T F h v d → RepL T F h vs ds → motive vs ds → motive (v :: vs) (d :: ds)) {vs : List Value} {ds : List D} (q : RepL T F h vs ds) : motive vs ds :=
  RepL.rec (motive_1 := fun _ _ _ => True) (motive_2 := fun vs ds _ => motive vs ds) trivial (fun _ => trivial) (fun _ _ => trivial) (fun _ _ _ => trivial) (fun _ => trivial) (fun _ _ _ _ _ => trivial) (fun _ _ _ _ _ => trivial) (fun _ _ => trivial) hn (fun a r _ i => hc a r i) q
theorem RepL.length {vs : List Value} {ds : List D} (q : RepL T F h vs ds) : vs.length = ds.length :=
  q.ind (motive := fun vs ds => vs.length = ds.length) rfl fun _ _ i => congrArg Nat.succ i
theorem RepL.append {vs ws : List Value} {ds es : List D} (q : RepL T F h vs ds) (k : RepL T F h ws es) : RepL T F h (vs ++ ws) (ds ++ es) :=
  q.ind (motive := fun vs ds => RepL T F h (vs ++ ws) (ds ++ es)) k fun a _ i => .cons a i
theorem RepL.get {vs : List Value} {ds : List D} (q : RepL T F h vs ds) : ∀ {k : Nat} {d : D}, ds[k]? = some d → ∃ v, vs[k]? = some v ∧ Rep T F h v d :=
  q.ind (motive := fun vs ds => ∀ {k : Nat} {d : D}, ds[k]? = some d → ∃ v, vs[k]? = some v ∧ Rep T F h v d) (fun e => nomatch e) fun a _ i => by
    intro k d e
    cases k with
    | zero => cases e; exact ⟨_, rfl, a⟩
    | succ k => exact i (k := k) e
theorem RepL.getV {vs : List Value} {ds : List D} (r : RepL T F h vs ds) {k : Nat} {v : Value} (e : vs[k]? = some v) : ∃ d, ds[k]? = some d ∧ Rep T F h v d := by
  have hk : k < vs.length := by
    rcases Nat.lt_or_ge k vs.length with q | q
    · exact q
    · rw [List.getElem?_eq_none q] at e; cases e
  have hk' : k < ds.length := r.length ▸ hk
  obtain ⟨v', e', rv⟩ := r.get (List.getElem?_eq_getElem hk')
  rw [e] at e'; cases e'
  exact ⟨_, List.getElem?_eq_getElem hk', rv⟩
theorem RepL.set {vs : List Value} {ds : List D} (n : Nat) {v : Value} {d : D} (q : RepL T F h vs ds) (k : Rep T F h v d) : RepL T F h (vs.set n v) (ds.set n d) :=
  q.ind (motive := fun vs ds => ∀ n, RepL T F h (vs.set n v) (ds.set n d)) (fun _ => .nil) (fun a r i n => by cases n with | zero => exact .cons k r | succ n => exact .cons a (i n)) n
theorem RepL.eraseIdx {vs : List Value} {ds : List D} (n : Nat) (q : RepL T F h vs ds) : RepL T F h (vs.eraseIdx n) (ds.eraseIdx n) :=
  q.ind (motive := fun vs ds => ∀ n, RepL T F h (vs.eraseIdx n) (ds.eraseIdx n)) (fun _ => .nil) (fun a r i n => by cases n with | zero => exact r | succ n => exact .cons a (i n)) n
theorem RepL.reverse {vs : List Value} {ds : List D} (q : RepL T F h vs ds) : RepL T F h vs.reverse ds.reverse :=
  q.ind (motive := fun vs ds => RepL T F h vs.reverse ds.reverse) .nil fun a _ i => by rw [List.reverse_cons, List.reverse_cons]; exact i.append (.cons a .nil)
theorem RepL.pickAt (is : List Nat) {vs : List Value} {ds : List D} (r : RepL T F h vs ds) : RepL T F h (is.filterMap (vs[·]?)) (is.filterMap (ds[·]?)) := by
  induction is with
  | nil => exact .nil
  | cons k is ih =>
    rcases Nat.lt_or_ge k ds.length with q | q
    · obtain ⟨v, e, rv⟩ := r.get (List.getElem?_eq_getElem q)
      rw [List.filterMap_cons_some e, List.filterMap_cons_some (List.getElem?_eq_getElem q)]
      exact .cons rv ih
    · rw [List.filterMap_cons_none (by simpa using r.length ▸ q), List.filterMap_cons_none (by simpa using q)]
      exact ih
theorem RepL.rep (n : Nat) {vs : List Value} {ds : List D} (r : RepL T F h vs ds) : RepL T F h (List.replicate n vs).flatten (List.replicate n ds).flatten := by
  induction n with
  | zero => simp; exact .nil
  | succ n ih => simp only [List.replicate_succ, List.flatten_cons]; exact r.append ih
theorem Rep.reads {v : Value} {d : D} {n : Nat} (r : Rep T F h v d) (q : d.ok n = true) : ∃ as, Reads h v d.toPy as := by
  have nx : ∀ {d : D} {n : Nat}, d.ok n = true → ∃ k, n = k + 1 := fun {d n} q => by
    cases n with
    | zero => unfold D.ok at q; cases q
    | succ k => exact ⟨k, rfl⟩
  refine Rep.rec (motive_1 := fun v d _ => ∀ n, d.ok n = true → ∃ as, Reads h v d.toPy as) (motive_2 := fun vs ds _ => ∀ n, D.oks n ds = true → ∃ as, ReadsAll h vs (D.toPys ds) as) (fun _ _ => ⟨[], .none⟩) (fun b _ _ => ⟨[], .bool b⟩) (fun i t _ _ => ⟨[], .int i t⟩) (fun t _ _ _ _ => ⟨[], .str _ t⟩) (fun m n q => ?_) (fun f g _ _ ih n q => ?_) (fun f g _ _ ih n q => ?_) (fun {k _ t} f g n q => ⟨_, Reads.list g rfl rfl (.cons (.str _ t) .nil)⟩) (fun _ _ => ⟨[], .nil⟩) (fun _ _ i1 i2 n q => ?_) r n q
  · obtain ⟨k, rfl⟩ := nx q; cases q
  · obtain ⟨k, rfl⟩ := nx q
    obtain ⟨as, x⟩ := ih k q
    exact ⟨_, Reads.list g rfl rfl (by rw [List.toList_toArray]; exact x)⟩
  · obtain ⟨k, rfl⟩ := nx q
    obtain ⟨as, x⟩ := ih k q
    exact ⟨_, Reads.tuple g rfl rfl (by rw [List.toList_toArray]; exact x)⟩
  · have q' := Bool.and_eq_true_iff.mp q
    obtain ⟨as, x⟩ := i1 n q'.1
    obtain ⟨bs, y⟩ := i2 n q'.2
    exact ⟨as ++ bs, .cons x y⟩
theorem RepL.reads {vs : List Value} {ds : List D} {n : Nat} (r : RepL T F h vs ds) (q : D.oks n ds = true) : ∃ as, ReadsAll h vs (D.toPys ds) as := by
  have nx : ∀ {d : D} {n : Nat}, d.ok n = true → ∃ k, n = k + 1 := fun {d n} q => by
    cases n with
    | zero => unfold D.ok at q; cases q
    | succ k => exact ⟨k, rfl⟩
  refine RepL.rec (motive_1 := fun v d _ => ∀ n, d.ok n = true → ∃ as, Reads h v d.toPy as) (motive_2 := fun vs ds _ => ∀ n, D.oks n ds = true → ∃ as, ReadsAll h vs (D.toPys ds) as) (fun _ _ => ⟨[], .none⟩) (fun b _ _ => ⟨[], .bool b⟩) (fun i t _ _ => ⟨[], .int i t⟩) (fun t _ _ _ _ => ⟨[], .str _ t⟩) (fun m n q => ?_) (fun f g _ _ ih n q => ?_) (fun f g _ _ ih n q => ?_) (fun {k _ t} f g n q => ⟨_, Reads.list g rfl rfl (.cons (.str _ t) .nil)⟩) (fun _ _ => ⟨[], .nil⟩) (fun _ _ i1 i2 n q => ?_) r n q
  · obtain ⟨k, rfl⟩ := nx q; cases q
  · obtain ⟨k, rfl⟩ := nx q
    obtain ⟨as, x⟩ := ih k q
    exact ⟨_, Reads.list g rfl rfl (by rw [List.toList_toArray]; exact x)⟩
  · obtain ⟨k, rfl⟩ := nx q
    obtain ⟨as, x⟩ := ih k q
    exact ⟨_, Reads.tuple g rfl rfl (by rw [List.toList_toArray]; exact x)⟩
  · have q' := Bool.and_eq_true_iff.mp q
    obtain ⟨as, x⟩ := i1 n q'.1
    obtain ⟨bs, y⟩ := i2 n q'.2
    exact ⟨as ++ bs, .cons x y⟩
end
section
variable {T : Nat → Addr} {F F' : Addr → Prop} {h h' : Heap}
theorem zgi {l : List Nat} (q : ∀ c ∈ l, c < 0x110000) : PyData.strOk ⟨l.toArray⟩ = true := by
  unfold PyData.strOk
  simpa [List.all_eq_true] using q
theorem Rep.lay {v : Value} {d : D} {n : Nat} (r : Rep T F h v d) (q : d.ok n = true) : d.toPy.canLay0 = true ∧ d.toPy.depth ≤ n := by
  have nx : ∀ {d : D} {n : Nat}, d.ok n = true → ∃ k, n = k + 1 := fun {d n} q => by
    cases n with
    | zero => unfold D.ok at q; cases q
    | succ k => exact ⟨k, rfl⟩
  refine Rep.rec (motive_1 := fun v d _ => ∀ n, d.ok n = true → d.toPy.canLay0 = true ∧ d.toPy.depth ≤ n) (motive_2 := fun vs ds _ => ∀ n, D.oks n ds = true → PyData.canLayAll0 (D.toPys ds) = true ∧ PyData.depthAll (D.toPys ds) ≤ n) (fun _ _ => ⟨rfl, Nat.zero_le _⟩) (fun _ _ _ => ⟨rfl, Nat.zero_le _⟩) (fun _ _ _ _ => ⟨rfl, Nat.zero_le _⟩) (fun t p _ _ _ => ⟨zgi p, Nat.zero_le _⟩) (fun m n q => ?_) (fun f g _ _ ih n q => ?_) (fun f g _ _ ih n q => ?_) (fun {k _ t} f g n q => ?_) (fun _ _ => ⟨rfl, Nat.zero_le _⟩) (fun _ _ i1 i2 n q => ?_) r n q
  · obtain ⟨k, rfl⟩ := nx q; cases q
  · obtain ⟨k, rfl⟩ := nx q
    have := ih k q
    simp only [D.toPy, PyData.canLay0, PyData.depth]
    exact ⟨this.1, by omega⟩
  · obtain ⟨k, rfl⟩ := nx q
    have := ih k q
    simp only [D.toPy, PyData.canLay0, PyData.depth]
    exact ⟨this.1, by omega⟩
  · obtain ⟨j, rfl⟩ := nx q
    have e : PyData.strOk ⟨(tokC k).toArray⟩ = true := zgi (by cases k <;> simp [tokC])
    have hj : 0 < j := of_decide_eq_true q
    simp only [D.toPy, PyData.canLay0, PyData.canLayAll0, PyData.depth, PyData.depthAll, e, Bool.and_self, true_and]; omega
  · have q' := Bool.and_eq_true_iff.mp q
    have x := i1 n q'.1
    have y := i2 n q'.2
    simp only [D.toPys, PyData.canLayAll0, PyData.depthAll, x.1, y.1]
    exact ⟨rfl, by omega⟩
theorem RepL.lay {vs : List Value} {ds : List D} {n : Nat} (r : RepL T F h vs ds) (q : D.oks n ds = true) : PyData.canLayAll0 (D.toPys ds) = true ∧ PyData.depthAll (D.toPys ds) ≤ n := by
  have nx : ∀ {d : D} {n : Nat}, d.ok n = true → ∃ k, n = k + 1 := fun {d n} q => by
    cases n with
    | zero => unfold D.ok at q; cases q
    | succ k => exact ⟨k, rfl⟩
  refine RepL.rec (motive_1 := fun v d _ => ∀ n, d.ok n = true → d.toPy.canLay0 = true ∧ d.toPy.depth ≤ n) (motive_2 := fun vs ds _ => ∀ n, D.oks n ds = true → PyData.canLayAll0 (D.toPys ds) = true ∧ PyData.depthAll (D.toPys ds) ≤ n) (fun _ _ => ⟨rfl, Nat.zero_le _⟩) (fun _ _ _ => ⟨rfl, Nat.zero_le _⟩) (fun _ _ _ _ => ⟨rfl, Nat.zero_le _⟩) (fun t p _ _ _ => ⟨zgi p, Nat.zero_le _⟩) (fun m n q => ?_) (fun f g _ _ ih n q => ?_) (fun f g _ _ ih n q => ?_) (fun {k _ t} f g n q => ?_) (fun _ _ => ⟨rfl, Nat.zero_le _⟩) (fun _ _ i1 i2 n q => ?_) r n q
  · obtain ⟨k, rfl⟩ := nx q; cases q
  · obtain ⟨k, rfl⟩ := nx q
    have := ih k q
    simp only [D.toPy, PyData.canLay0, PyData.depth]
    exact ⟨this.1, by omega⟩
  · obtain ⟨k, rfl⟩ := nx q
    have := ih k q
    simp only [D.toPy, PyData.canLay0, PyData.depth]
    exact ⟨this.1, by omega⟩
  · obtain ⟨j, rfl⟩ := nx q
    have e : PyData.strOk ⟨(tokC k).toArray⟩ = true := zgi (by cases k <;> simp [tokC])
    have hj : 0 < j := of_decide_eq_true q
    simp only [D.toPy, PyData.canLay0, PyData.canLayAll0, PyData.depth, PyData.depthAll, e, Bool.and_self, true_and]; omega
  · have q' := Bool.and_eq_true_iff.mp q
    have x := i1 n q'.1
    have y := i2 n q'.2
    simp only [D.toPys, PyData.canLayAll0, PyData.depthAll, x.1, y.1]
    exact ⟨rfl, by omega⟩
theorem Rep.shaped {v : Value} {d : D} {n : Nat} (r : Rep T F h v d) (q : d.ok n = true) (hn : n ≤ 60) : PySem.SeqAt.shaped d.toPy = true := by
  have l := r.lay q
  unfold PySem.SeqAt.shaped
  rw [l.1, Bool.true_and]; exact decide_eq_true (by omega)
end
end Mine
end MpBx
section MpCx
open PySem PySem.Calls PyProof.Rows
namespace Mine
noncomputable def GensBare (a : Array GenState) : Prop := ∀ g ∈ a, g.bare = true
set_option genInjectivity false in
structure XCx extends Cx where
  XF : (Addr → Prop) → Heap → Prop
set_option genInjectivity false in
structure Wd (cx : XCx) (F : Addr → Prop) (s : Shared) : Prop where
  base : ∀ a o, cx.h0.get? a = some o → ¬ cx.X a → s.heap.get? a = some o
  xi : cx.XF F s.heap
  gens : GensBare s.gens
  f0 : ∀ a o, cx.h0.get? a = some o → ¬ cx.X a → F a
  lt : ∀ a, F a → ∃ o, s.heap.get? a = some o
  nx : ∀ a, F a → ¬ cx.X a
  xex : ∀ a, cx.X a → ∃ o, s.heap.get? a = some o
set_option genInjectivity false in
structure CxOk (cx : XCx) : Prop where
  xi : ∀ F F' h h', cx.XF F h → (∀ a, F a → F' a) → (∀ a o, F a ∨ cx.X a → h.get? a = some o → h'.get? a = some o) → cx.XF F' h'
  glob : cx.h0.Ns mainGlobals cx.mg
  gx : ¬ cx.X mainGlobals
  blt : cx.h0.Ns builtinsNs cx.mb
  bx : ¬ cx.X builtinsNs
  bmb : ∀ x : Str, x ≠ "__name__" → cx.mb x = bootBuiltins x
  lim : cx.h0.NoLimit
  limx : ¬ cx.X cStatics
  seer : ∀ h : Heap, (∀ a o, cx.h0.get? a = some o → ¬ cx.X a → h.get? a = some o) → h.NoSeer
  tree : cx.prog.given.tree = none
  nb : ∃ mc, cx.h0.Ns cStatics mc ∧ mc sharingNotToldKey = none
  tinj : ∀ i j, cx.T i = cx.T j → i = j
set_option genInjectivity false in
structure Step (cx : XCx) (F : Addr → Prop) (s : Shared) (F' : Addr → Prop) (s' : Shared) : Prop where
  sub : ∀ a, F a → F' a
  new : ∀ a, F' a → F a ∨ s.heap.get? a = none
  keep : ∀ a o, s.heap.get? a = some o → ¬ cx.X a → s'.heap.get? a = some o
  os : s'.os = s.os
  wd : Wd cx F' s'
theorem zbt (h : Heap) : h.get? h.objs.size = none := by
  cases e : h.get? h.objs.size with
  | none => rfl
  | some o => exact absurd (Heap.lt_size e) (Nat.lt_irrefl _)
section
variable {cx : XCx} {F F' F'' : Addr → Prop} {s s' s'' : Shared}
theorem Step.refl (w : Wd cx F s) : Step cx F s F s := ⟨fun _ h => h, fun _ h => .inl h, fun _ _ e _ => e, rfl, w⟩
theorem Step.fresh (x : Step cx F s F' s') {a : Addr} (nx : ¬ cx.X a) (h : s'.heap.get? a = none) : s.heap.get? a = none := by
  cases e : s.heap.get? a with
  | none => rfl
  | some o => rw [x.keep a o e nx] at h; cases h
theorem Step.trans (x : Step cx F s F' s') (y : Step cx F' s' F'' s'') : Step cx F s F'' s'' :=
  ⟨fun a h => y.sub a (x.sub a h), fun a h => by
    rcases y.new a h with q | q
    · exact x.new a q
    · exact .inr (x.fresh (y.wd.nx a h) q), fun a o e nx => y.keep a o (x.keep a o e nx) nx, y.os.trans x.os, y.wd⟩
theorem Wd.toks (w : Wd cx F s) (k : Nat) : Wd cx F { s with toks := k } := ⟨w.base, w.xi, w.gens, w.f0, w.lt, w.nx, w.xex⟩
theorem Step.toks (x : Step cx F s F' s') (k : Nat) : Step cx F s F' { s' with toks := k } := ⟨x.sub, x.new, x.keep, x.os, x.wd.toks k⟩
theorem Step.rep (x : Step cx F s F' s') (w : Wd cx F s) {v : Value} {d : D} (r : Rep cx.T F s.heap v d) : Rep cx.T F' s'.heap v d := r.mono x.sub fun a o f e => x.keep a o e (w.nx a f)
theorem Step.repL (x : Step cx F s F' s') (w : Wd cx F s) {v : List Value} {d : List D} (r : RepL cx.T F s.heap v d) : RepL cx.T F' s'.heap v d := r.mono x.sub fun a o f e => x.keep a o e (w.nx a f)
theorem Step.grown (ok : CxOk cx) (w : Wd cx F s) {h' : Heap} (k : Nat) (hk : ∀ a o, s.heap.get? a = some o → h'.get? a = some o) : Step cx F s F { s with heap := h', toks := k } :=
  ⟨fun _ h => h, fun _ h => .inl h, fun a o e _ => hk a o e, rfl, ⟨fun a o e nx => hk a o (w.base a o e nx), ok.xi _ _ _ _ w.xi (fun _ h => h) (fun a o _ e => hk a o e), w.gens, w.f0, fun a f => let ⟨o, e⟩ := w.lt a f; ⟨o, hk a o e⟩, w.nx, fun a f => let ⟨o, e⟩ := w.xex a f; ⟨o, hk a o e⟩⟩⟩
theorem Step.push (ok : CxOk cx) (w : Wd cx F s) (o : Obj) (k : Nat) : Step cx F s F { s with heap := s.heap.push o, toks := k } :=
  Step.grown ok w k fun _ _ e => Heap.get?_push_of_some o e
theorem Wd.newNotX (w : Wd cx F s) {a : Addr} (h : s.heap.get? a = none) : ¬ cx.X a := fun x => by
  obtain ⟨o, e⟩ := w.xex a x
  rw [e] at h; cases h
theorem Wd.newNotF (w : Wd cx F s) {a : Addr} (h : s.heap.get? a = none) : ¬ F a := fun x => by
  obtain ⟨o, e⟩ := w.lt a x
  rw [e] at h; cases h
theorem Step.freeze (ok : CxOk cx) (w : Wd cx F s) (x : Step cx F s F' s') {a : Addr} {o : Obj} (h1 : s.heap.get? a = none) (h2 : s'.heap.get? a = some o) : Step cx F s (fun b => F' b ∨ b = a) s' :=
  ⟨fun b h => .inl (x.sub b h), fun b h => h.elim (x.new b) fun e => .inr (e ▸ h1), x.keep, x.os,
    ⟨x.wd.base, ok.xi _ _ _ _ x.wd.xi (fun _ h => .inl h) (fun _ _ _ e => e), x.wd.gens, fun b o h nx => .inl (x.wd.f0 b o h nx), fun b h => h.elim (x.wd.lt b) fun e => e ▸ ⟨o, h2⟩,
      fun b h => h.elim (x.wd.nx b) fun e => e ▸ w.newNotX h1, x.wd.xex⟩⟩
theorem Step.notF (x : Step cx F s F' s') {a : Addr} {o : Obj} (h : ¬ F a) (hl : s.heap.get? a = some o) : ¬ F' a := fun h' => by
  rcases x.new a h' with q | q
  · exact h q
  · rw [hl] at q; cases q
theorem Wd.glob (ok : CxOk cx) (w : Wd cx F s) : s.heap.Ns mainGlobals cx.mg := ok.glob.at' fun o e => w.base _ o e ok.gx
theorem Wd.blt (ok : CxOk cx) (w : Wd cx F s) : s.heap.Ns builtinsNs cx.mb := ok.blt.at' fun o e => w.base _ o e ok.bx
theorem Wd.lim (ok : CxOk cx) (w : Wd cx F s) : s.heap.NoLimit := ok.lim.at fun o e => w.base _ o e ok.limx
end
inductive BRep (cx : XCx) (F : Addr → Prop) (h : Heap) : Value → D → Prop
  | rep {v : Value} {d : D} : Rep cx.T F h v d → BRep cx F h v d
  | own {a : Addr} {vs : List Value} {n : Nat} {l : List D} : ¬ cx.X a → h.get? a = some (lobj vs.toArray n) → vs.length ≤ lim → RepL cx.T F h vs l → BRep cx F h (.ref a) (.list l)
inductive BRepL (cx : XCx) (F : Addr → Prop) (h : Heap) : List Value → List D → Prop
  | nil : BRepL cx F h [] []
  | cons {v : Value} {vs : List Value} {d : D} {ds : List D} : BRep cx F h v d → BRepL cx F h vs ds → BRepL cx F h (v :: vs) (d :: ds)
inductive RepR (cx : XCx) (F : Addr → Prop) (lo : Heap) (h : Heap) : Value → R → Prop
  | val {v : Value} {d : D} : Rep cx.T F h v d → RepR cx F lo h v (.val d)
  | own {a : Addr} {vs : List Value} {n : Nat} {l : List D} : lo.get? a = none → ¬ F a → ¬ cx.X a → h.get? a = some (lobj vs.toArray n) → vs.length ≤ lim → RepL cx.T F h vs l → RepR cx F lo h (.ref a) (.own l)
  | bor {a : Addr} {vs : List Value} {n : Nat} {l : List D} : ¬ cx.X a → h.get? a = some (lobj vs.toArray n) → vs.length ≤ lim → RepL cx.T F h vs l → RepR cx F lo h (.ref a) (.bor l)
section
variable {cx : XCx} {F F' F'' : Addr → Prop} {s s' s'' : Shared} {v : Value} {d : D} {r : R} {lo : Heap} {vs : List Value} {ds : List D}
theorem Step.brep (x : Step cx F s F' s') (w : Wd cx F s) (b : BRep cx F s.heap v d) : BRep cx F' s'.heap v d := by
  cases b with
  | rep q => exact .rep (x.rep w q)
  | own nx e z q => exact .own nx (x.keep _ _ e nx) z (x.repL w q)
theorem RepR.brep {h : Heap} (q : RepR cx F lo h v r) : BRep cx F h v r.ds := by
  cases q with
  | val q => exact .rep q
  | own _ _ nx e z q => exact .own nx e z q
  | bor nx e z q => exact .own nx e z q
theorem RepR.step (x : Step cx F s F' s') (w : Wd cx F s) (q : RepR cx F lo s.heap v r) : RepR cx F' lo s'.heap v r := by
  cases q with
  | val q => exact .val (x.rep w q)
  | own l nf nx e z q => exact .own l (x.notF nf e) nx (x.keep _ _ e nx) z (x.repL w q)
  | bor nx e z q => exact .bor nx (x.keep _ _ e nx) z (x.repL w q)
theorem RepR.low (x : Step cx F s F' s') {F'' : Addr → Prop} {h : Heap} (q : RepR cx F'' s'.heap h v r) : RepR cx F'' s.heap h v r := by
  cases q with
  | val q => exact .val q
  | own l nf nx e z q => exact .own (x.fresh nx l) nf nx e z q
  | bor nx e z q => exact .bor nx e z q
theorem Step.fz (ok : CxOk cx) (w : Wd cx F s) (x : Step cx F s F' s') (q : RepR cx F' s.heap s'.heap v r) (e : r.fz = some d) :
    ∃ F'', Step cx F s F'' s' ∧ (∀ a, F' a → F'' a) ∧ Rep cx.T F'' s'.heap v d := by
  cases q with
  | val q => cases e; exact ⟨F', x, fun _ h => h, q⟩
  | own l nf nx g z q =>
    cases e
    exact ⟨_, x.freeze ok w l g, fun _ h => .inl h, .list (.inr rfl) g z (q.mono (fun _ h => .inl h) fun _ _ _ e => e)⟩
  | bor nx g z q => cases e
end
set_option genInjectivity false in
structure Bud (n : Nat) (A : Around) : Prop where
  hd : A.handled = none
  dp : A.depth + n < 890
  un : A.units + 10 * n + 200 < 9900
  fs : ∃ l, A.frames = some l
theorem Bud.lt {n k : Nat} {A : Around} (b : Bud n A) (h : k ≤ 200) : A.units + k < cLine := by have := b.un; show A.units + k < 9900; omega
set_option genInjectivity false in
structure BudE (n : Nat) (A : Around) : Prop extends Bud n A where
  fr : ∃ env l, A.frames = some (env :: l) ∧ env.scope.isGenerator = false ∧ env.scope.isCoroutine = false ∧ env.builtins = builtinsNs ∧ env.globals = mainGlobals
noncomputable def Post (cx : XCx) (F : Addr → Prop) (s : Shared) (r : R) (Q : Value → Shared → Prop) : Prop :=
  ∀ v F' s', Step cx F s F' s' → RepR cx F' s.heap s'.heap v r → Q v s'
noncomputable def Ev (cx : XCx) (A : Around) (F : Addr → Prop) (s : Shared) (t : Sem Value) (r : R) : Prop := ∀ Q E, Post cx F s r Q → wpAny (model cx.prog cx.w) A t Q E s
noncomputable def EvB (cx : XCx) (A : Around) (F : Addr → Prop) (s : Shared) (t : Sem Bool) (b : Bool) : Prop := ∀ Q E, (∀ F' s', Step cx F s F' s' → Q b s') → wpAny (model cx.prog cx.w) A t Q E s
set_option genInjectivity false in
structure Sc where
  kinds : List (Str × NameKind)
  vars : List (Str × Nat)
  code : Option (Addr × PySem.Str) := none
inductive SlotRep (cx : XCx) (F : Addr → Prop) (h : Heap) (ad : Nat → Addr) (i : Nat) : Option Value → Slot → Prop
  | unset {ov : Option Value} : SlotRep cx F h ad i ov .unset
  | val {v : Value} {d : D} : Rep cx.T F h v d → SlotRep cx F h ad i (some v) (.val d)
  | own {vs : List Value} {n : Nat} {l : List D} : ¬ F (ad i) → ¬ cx.X (ad i) → h.get? (ad i) = some (lobj vs.toArray n) → vs.length ≤ lim → RepL cx.T F h vs l → SlotRep cx F h ad i (some (.ref (ad i))) (.own l)
  | app {b : Addr} {o : Obj} {j : Nat} : F b → h.get? b = some o → o = appObj (ad j) → SlotRep cx F h ad i (some (.ref b)) (.app j)
noncomputable def slotAt (ρ : List Slot) (i : Nat) : Slot := ρ.getD i .unset
set_option genInjectivity false in
structure EnvOK (cx : XCx) (ε : Sc) (env : Env) (F : Addr → Prop) (h : Heap) (ρ : List Slot) (ad : Nat → Addr) (m cm : Str → Option Value) : Prop where
  kind : env.scope.kind = .function
  names : env.scope.names = ε.kinds
  glob : env.globals = mainGlobals
  blt : env.builtins = builtinsNs
  code : ∀ c q, ε.code = some (c, q) → env.code = .ref c ∧ env.qual = q
  lx : ¬ cx.X env.locals
  cxx : ∀ n c, env.cells.lookup n = some c → ¬ cx.X c
  ns : h.Ns env.locals m
  cells : ∀ n c, env.cells.lookup n = some c → h.IsCell c (cm n)
  vars : ∀ x i, ε.vars.lookup x = some i →
    (ε.kinds.lookup x = some .local ∧ SlotRep cx F h ad i (m x) (slotAt ρ i)) ∨
    ((ε.kinds.lookup x = some .cell ∨ ε.kinds.lookup x = some .free) ∧ (∃ c, env.cells.lookup x = some c) ∧ SlotRep cx F h ad i (cm x) (slotAt ρ i))
section
variable {cx : XCx} {F F' : Addr → Prop} {s s' : Shared} {ε : Sc} {env : Env} {ρ : List Slot} {ad : Nat → Addr} {m cm : Str → Option Value}
theorem SlotRep.step {i : Nat} {ov : Option Value} {sl : Slot} (x : Step cx F s F' s') (w : Wd cx F s) (q : SlotRep cx F s.heap ad i ov sl) : SlotRep cx F' s'.heap ad i ov sl := by
  cases q with
  | unset => exact .unset
  | val q => exact .val (x.rep w q)
  | own nf nx g z q => exact .own (x.notF nf g) nx (x.keep _ _ g nx) z (x.repL w q)
  | app f g e => exact .app (x.sub _ f) (x.keep _ _ g (w.nx _ f)) e
theorem RepR.pushOwn (w : Wd cx F s) {vs : List Value} {l : List D} (z : vs.length ≤ lim) (q : RepL cx.T F s.heap vs l) : RepR cx F s.heap (s.heap.push (lobj vs.toArray 0)) (.ref s.heap.objs.size) (.own l) :=
  .own (n := 0) (zbt _) (w.newNotF (zbt _)) (w.newNotX (zbt _)) (Heap.get?_push_size _ rfl) z (q.mono (fun _ h => h) fun _ _ _ e => Heap.get?_push_of_some _ e)
theorem EnvOK.step (x : Step cx F s F' s') (w : Wd cx F s) (e : EnvOK cx ε env F s.heap ρ ad m cm) : EnvOK cx ε env F' s'.heap ρ ad m cm :=
  ⟨e.kind, e.names, e.glob, e.blt, e.code, e.lx, e.cxx, e.ns.at' fun o g => x.keep _ o g e.lx, fun n c hc => let ⟨o, g, d⟩ := e.cells n c hc; ⟨o, x.keep _ o g (e.cxx n c hc), d⟩,
    fun y i hy => (e.vars y i hy).imp (fun ⟨k, q⟩ => ⟨k, q.step x w⟩) fun ⟨k, c, q⟩ => ⟨k, c, q.step x w⟩⟩
end
noncomputable def FnAt (cx : XCx) (f : Nat) : Prop := ∃ o fd, cx.h0.get? (cx.fa f) = some o ∧ o.data = .func fd ∧ ¬ cx.X (cx.fa f)
noncomputable def CallOK (cx : XCx) (n : Nat) (cf : Nat → List D → Option D) : Prop :=
  ∀ f args d, cf f args = some d → FnAt cx f ∧ ∀ A F s vs, Bud n A → Wd cx F s → RepL cx.T F s.heap vs args → ∀ (Rs : Result → Shared → Prop), (∀ v F' s', Step cx F s F' s' → Rep cx.T F' s'.heap v d → Rs (.ok (.ret v)) s') →
    codeAny (model cx.prog cx.w) A (.call (.ref (cx.fa f)) ⟨vs, []⟩) Rs s
set_option genInjectivity false in
structure Here (cx : XCx) (ε : Sc) (n : Nat) (cf : Nat → List D → Option D) (A : Around) (env : Env) (F : Addr → Prop) (s : Shared) (ρ : List Slot) (ad : Nat → Addr) (m cm : Str → Option Value) : Prop where
  ok : CxOk cx
  calls : CallOK cx n cf
  bud : BudE n A
  wd : Wd cx F s
  env : EnvOK cx ε env F s.heap ρ ad m cm
theorem Here.step {cx : XCx} {ε : Sc} {n : Nat} {cf : Nat → List D → Option D} {A : Around} {env : Env} {F F' : Addr → Prop} {s s' : Shared} {ρ : List Slot} {ad : Nat → Addr} {m cm : Str → Option Value}
    (H : Here cx ε n cf A env F s ρ ad m cm) (x : Step cx F s F' s') : Here cx ε n cf A env F' s' ρ ad m cm := ⟨H.ok, H.calls, H.bud, x.wd, H.env.step x H.wd⟩
noncomputable def SoundE (cx : XCx) (ε : Sc) (e : Expr) (x : X) : Prop :=
  ∀ n cf A env F s ρ ad m cm, Here cx ε n cf A env F s ρ ad m cm → ∀ r, ev cf x ρ = some [r] → Ev cx A F s (eval e env) r
noncomputable def SoundT (cx : XCx) (ε : Sc) (e : Expr) (x : X) : Prop :=
  ∀ n cf A env F s ρ ad m cm, Here cx ε n cf A env F s ρ ad m cm → ∀ b, evT cf x ρ = some b → EvB cx A F s (isTrue e env (eval e env)) b
set_option genInjectivity false in
structure Sound (cx : XCx) (ε : Sc) (e : Expr) (x : X) : Prop where
  ev : SoundE cx ε e x
  tr : SoundT cx ε e x
section
variable {cx : XCx} {A : Around} {F F' : Addr → Prop} {s s' : Shared} {t : Sem Value} {r : R}
theorem Ev.here (w : Wd cx F s) {v : Value} (q : RepR cx F s.heap s.heap v r) : Ev cx A F s (pure v) r := fun _ _ h => wpAny_pure (h v F s (Step.refl w) q)
theorem Post.after {Q : Value → Shared → Prop} (x : Step cx F s F' s') (h : Post cx F s r Q) : Post cx F' s' r Q := fun v F'' s'' y q => h v F'' s'' (x.trans y) (q.low x)
theorem Ev.bind {α : Type} {k : Value → Sem α} {Q : α → Shared → Prop} {E : Value → Shared → Prop} (h : Ev cx A F s t r)
    (g : ∀ v F' s', Step cx F s F' s' → RepR cx F' s.heap s'.heap v r → wpAny (model cx.prog cx.w) A (k v) Q E s') : wpAny (model cx.prog cx.w) A (t >>= k) Q E s :=
  wpAny_bind (h _ _ g)
end
end Mine
end MpCx
section MpDx
open PySem PySem.Calls PyProof.Rows
namespace Mine
inductive EvOp (cf : Nat → List D → Option D) (ρ : List Slot) (o : Op) (a : X) (r : R) : Prop
  | mk (rs : List R) (e : ev cf a ρ = some rs) (h : opF o (rs.map R.ds) = some r)
inductive EvCons (cf : Nat → List D → Option D) (ρ : List Slot) (a b : X) (rs : List R) : Prop
  | mk (x : R) (xs : List R) (ea : ev cf a ρ = some [x]) (eb : ev cf b ρ = some xs) (e : rs = x :: xs)
inductive ListInv (cx : XCx) (F : Addr → Prop) (h : Heap) (v : Value) (l : List D) : Prop
  | mk (a : Addr) (vs : List Value) (n : Nat) (e : v = .ref a) (nx : ¬ cx.X a) (g : h.get? a = some (lobj vs.toArray n)) (z : vs.length ≤ lim) (q : RepL cx.T F h vs l)
inductive TupInv (cx : XCx) (F : Addr → Prop) (h : Heap) (v : Value) (l : List D) : Prop
  | mk (a : Addr) (vs : List Value) (n : Nat) (e : v = .ref a) (f : F a) (g : h.get? a = some (tobj vs.toArray n)) (z : vs.length ≤ lim) (q : RepL cx.T F h vs l)
inductive StrInv (v : Value) (l : List Nat) : Prop
  | mk (t : Tok) (e : v = .str ⟨l.toArray⟩ t) (p : ∀ c ∈ l, c < 0x110000) (z : l.length ≤ lim)
inductive TwoInv (cx : XCx) (F : Addr → Prop) (h : Heap) (vs : List Value) (a b : D) : Prop
  | mk (x y : Value) (e : vs = [x, y]) (qa : BRep cx F h x a) (qb : BRep cx F h y b)
section
variable {cf : Nat → List D → Option D} {ρ : List Slot}
theorem ev_op {o : Op} {a : X} {r : R} (h : ev cf (.op o a) ρ = some [r]) : EvOp cf ρ o a r := by
  replace h := (zcb _).symm.trans h
  split at h
  · rename_i rs e
    obtain ⟨r', e', h'⟩ := Option.map_eq_some_iff.mp h
    cases h'
    exact ⟨rs, e, e'⟩
  · cases h
theorem zaW {a b : X} {rs : List R} (h : ev cf (.cons a b) ρ = some rs) : EvCons cf ρ a b rs := by
  replace h := (zaT _).symm.trans h
  split at h
  · rename_i x e
    obtain ⟨xs, e', h'⟩ := Option.map_eq_some_iff.mp h
    exact ⟨x, xs, e, e', h'.symm⟩
  · cases h
theorem zdf {rs : List R} (h : ev cf .nil ρ = some rs) : rs = [] := by replace h := (zbE _).symm.trans h; cases h; rfl
end
noncomputable def op1 (f : Value → Sem Value) : List Value → Sem Value
  | [a] => f a
  | _ => unsupported "mine"
noncomputable def op2 (f : Value → Value → Sem Value) : List Value → Sem Value
  | [a, b] => f a b
  | _ => unsupported "mine"
noncomputable def OpOK (cx : XCx) (o : Op) (t : List Value → Sem Value) : Prop :=
  ∀ n A F s vs ds r, CxOk cx → BudE n A → Wd cx F s → BRepL cx F s.heap vs ds → opF o ds = some r → Ev cx A F s (t vs) r
theorem sz_lt {n : Nat} (h : n ≤ lim) : (n : Int) < 2 ^ 63 := by unfold lim at h; omega
theorem zbm {n : Nat} (h : n ≤ lim) : n ≤ sizeLine := by rw [sizeLine_eq]; unfold lim at h; omega
section
variable {cx : XCx} {F : Addr → Prop} {s : Shared} {h : Heap} {v : Value} {A : Around}
theorem zbn {a : Addr} {vs : List Value} {n : Nat} (g : h.get? a = some (lobj vs.toArray n)) : h.IsList a vs.toArray := ⟨_, g, rfl, n, rfl⟩
theorem zii {a : Addr} {vs : List Value} {n : Nat} (g : h.get? a = some (tobj vs.toArray n)) : IsTup h a vs.toArray := ⟨_, g, rfl, n, rfl⟩
theorem BRep.list_inv (w : Wd cx F s) {l : List D} (b : BRep cx F s.heap v (.list l)) : ListInv cx F s.heap v l := by
  cases b with
  | rep q =>
    cases q with
    | list f g z q => exact ⟨_, _, _, rfl, w.nx _ f, g, z, q⟩
  | own nx g z q => exact ⟨_, _, _, rfl, nx, g, z, q⟩
theorem BRep.tup_inv {l : List D} (b : BRep cx F h v (.tup l)) : TupInv cx F h v l := by
  cases b with
  | rep q =>
    cases q with
    | tup f g z q => exact ⟨_, _, _, rfl, f, g, z, q⟩
theorem BRep.str_inv {l : List Nat} (b : BRep cx F h v (.str l)) : StrInv v l := by
  cases b with
  | rep q => cases q with | str t p z => exact ⟨t, rfl, p, z⟩
theorem BRep.int_inv {i : Int} (b : BRep cx F h v (.int i)) : ∃ t, v = .int i t := by
  cases b with
  | rep q => cases q with | int _ t => exact ⟨t, rfl⟩
theorem BRep.bool_inv {i : Bool} (b : BRep cx F h v (.bool i)) : v = .bool i := by
  cases b with
  | rep q => cases q with | bool _ => rfl
theorem BRep.none_inv (b : BRep cx F h v .none) : v = .none := by
  cases b with
  | rep q => cases q with | none => rfl
theorem BRep.ty_inv {n : String} (b : BRep cx F h v (.ty n)) : v = .type n := by
  cases b with
  | rep q => cases q with | ty _ => rfl
theorem BRepL.two {vs : List Value} {a b : D} (q : BRepL cx F h vs [a, b]) : TwoInv cx F h vs a b := by
  cases q with
  | cons p q => cases q with | cons p' q => cases q; exact ⟨_, _, rfl, p, p'⟩
theorem BRepL.one {vs : List Value} {a : D} (q : BRepL cx F h vs [a]) : ∃ x, vs = [x] ∧ BRep cx F h x a := by
  cases q with
  | cons p q => cases q; exact ⟨_, rfl, p⟩
theorem zc0 (w : Wd cx F s) {d : D} {b : Bool} (q : BRep cx F s.heap v d) (e : d.truth = some b) : EvB cx A F s (truthy v) b := by
  intro Q E hQ
  cases d with
  | none => cases e; rw [q.none_inv]; exact PyProof.Rows.truthy_none (hQ F s (Step.refl w))
  | bool b => cases e; rw [q.bool_inv]; exact wpAny_truthy_bool (hQ F s (Step.refl w))
  | int i =>
    obtain ⟨t, rfl⟩ := q.int_inv
    cases e
    refine PyProof.Rows.truthy_int ?_
    have := hQ F s (Step.refl w)
    by_cases hi : i = 0
    · subst hi; exact this
    · have e1 : (i != 0) = true := bne_iff_ne.mpr hi
      rw [e1]
      simpa [hi] using this
  | str l =>
    obtain ⟨t, rfl, p, z⟩ := q.str_inv
    cases e
    refine P.truthy_str (by have := sz_lt z; show ¬ ((l.toArray.size : Nat) : Int) ≥ 2 ^ 63; rw [List.size_toArray]; omega) ?_
    have e : (((PySem.Str.mk l.toArray).length : Int) != 0) = !l.isEmpty := by
      show (((l.toArray.size : Nat) : Int) != 0) = _
      rw [List.size_toArray]
      cases l <;> simp <;> omega
    rw [e]
    exact hQ F _ ((Step.refl w).toks _)
  | list l =>
    obtain ⟨a, vs, n, rfl, nx, g, z, ql⟩ := q.list_inv w
    cases e
    refine wpAny_truthy_list (zbn g) (by rw [List.size_toArray]; exact sz_lt z) ?_
    have e : (!vs.toArray.isEmpty) = !l.isEmpty := by
      have := ql.length
      clear q
      cases vs <;> cases l <;> simp_all
    rw [e]
    exact hQ F _ ((Step.refl w).toks _)
  | tup l =>
    obtain ⟨a, vs, n, rfl, f, g, z, ql⟩ := q.tup_inv
    cases e
    refine PyProof.Rows.truthy_tuple (zii g) (by rw [List.size_toArray]; exact sz_lt z) ?_
    have e : (!vs.toArray.isEmpty) = !l.isEmpty := by
      have := ql.length
      clear q
      cases vs <;> cases l <;> simp_all
    rw [e]
    exact hQ F _ ((Step.refl w).toks _)
  | tok k => cases e
  | ty n => cases e
end
section
variable {cx : XCx} {ε : Sc}
theorem SoundT.ofE {e : Expr} {x : X} (h : SoundE cx ε e x) (hf : ∀ env, isTrue e env (eval e env) = (do let v ← eval e env; standAt e.pos; holding [v] (truthy v))) : SoundT cx ε e x := by
  intro n cf A env F s ρ ad m cm H b hb Q E hQ
  unfold evT truthR at hb
  split at hb
  · rename_i r e
    rw [hf]
    refine Ev.bind (h n cf A env F s ρ ad m cm H r e) fun v F' s' st q => ?_
    exact wpAny_bind (wpAny_standAt (wpAny_holding (zc0 st.wd q.brep hb _ _ fun F'' s'' st' => hQ F'' s'' (st.trans st'))))
  · cases hb
theorem Sound.ofE {e : Expr} {x : X} (h : SoundE cx ε e x) (hf : ∀ env, isTrue e env (eval e env) = (do let v ← eval e env; standAt e.pos; holding [v] (truthy v))) : Sound cx ε e x := ⟨h, SoundT.ofE h hf⟩
noncomputable def constD : Const → Option D
  | .none => some .none
  | .bool b => some (.bool b)
  | .int i => some (.int i)
  | .str x => if x.cps.toList.all (fun c => decide (c < 0x110000)) && decide (x.cps.size ≤ lim) then some (.str x.cps.toList) else none
  | _ => none
theorem zac {c : Const} {k : Nat} {pos : Pos} {d : D} (hd : constD c = some d) : Sound cx ε (.Constant c k pos) (.const d) := by
  refine Sound.ofE ?_ fun _ => rfl
  intro n cf A env F s ρ ad m cm H r hr Q E hQ
  replace hr := (zaB _).symm.trans hr
  cases hr
  cases c <;> try cases hd
  · exact wpAny_pure (hQ _ F s (Step.refl H.wd) (.val .none))
  · exact wpAny_pure (hQ _ F s (Step.refl H.wd) (.val (.bool _)))
  · exact wpAny_Constant_int (hQ _ F _ ((Step.refl H.wd).toks _) (.val (.int _ _)))
  · rename_i x
    replace hd : (if (x.cps.toList.all (fun c => decide (c < 0x110000)) && decide (x.cps.size ≤ lim)) = true then some (D.str x.cps.toList) else none) = some d := hd
    split at hd
    · rename_i q
      cases hd
      simp only [Bool.and_eq_true, List.all_eq_true, decide_eq_true_eq] at q
      refine Calls.Constant_str (hQ _ F _ ((Step.refl H.wd).toks _) (.val ?_))
      exact Rep.str (l := x.cps.toList) _ q.1 (by rw [Array.length_toList]; exact q.2)
    · cases hd
theorem zgl {n cf A env F s ρ ad m cm} (H : Here cx ε n cf A env F s ρ ad m cm) {x : Str} {i : Nat} (hv : ε.vars.lookup x = some i) (hn : (x == ("__classdict__" : Str)) = false) {Q : Value → Shared → Prop} {E : Value → Shared → Prop}
    (h : ∀ v, SlotRep cx F s.heap ad i (some v) (slotAt ρ i) → Q v s) (hs : slotAt ρ i ≠ .unset) : wpAny (model cx.prog cx.w) A (loadName env x) Q E s := by
  have hk : env.scope.kind = .function := H.env.kind
  have key : ∀ {ov : Option Value}, SlotRep cx F s.heap ad i ov (slotAt ρ i) → ∃ v, ov = some v ∧ SlotRep cx F s.heap ad i (some v) (slotAt ρ i) := by
    intro ov q
    generalize slotAt ρ i = sl at *
    cases q with
    | unset => exact absurd rfl hs
    | val q => exact ⟨_, rfl, .val q⟩
    | own a b c d q => exact ⟨_, rfl, .own a b c d q⟩
    | app a b c => exact ⟨_, rfl, .app a b c⟩
  rcases H.env.vars x i hv with ⟨k, q⟩ | ⟨k, ⟨c, hc⟩, q⟩
  · obtain ⟨v, e, q'⟩ := key q
    exact wpAny_loadName_local hk (by unfold Env.kindOf; rw [H.env.names]; exact k) H.env.ns e (h v q')
  · obtain ⟨v, e, q'⟩ := key q
    have hcell := H.env.cells x c hc
    rw [e] at hcell
    rcases k with k | k
    · exact wpAny_loadName_cell hk (by unfold Env.kindOf; rw [H.env.names]; exact k) hc hcell (h v q')
    · exact wpAny_loadName_free hk (by unfold Env.kindOf; rw [H.env.names]; exact k) hc hcell (h v q') hn
theorem zaa {x : Str} {i : Nat} {pos : Pos} (hv : ε.vars.lookup x = some i) (hn : (x == ("__classdict__" : Str)) = false) (hd : (x == ("__debug__" : Str)) = false) : Sound cx ε (.Name x pos) (.var i) := by
  refine Sound.ofE ?_ fun _ => rfl
  intro n cf A env F s ρ ad m cm H r hr Q E hQ
  refine wpAny_Name ?_ hd
  replace hr := (zbh _).symm.trans hr
  have hr' : ∀ sl, ρ[i]? = some sl → slotAt ρ i = sl := fun sl e => by unfold slotAt; simp [List.getD, e]
  cases hs : ρ[i]? with
  | none => rw [hs] at hr; cases hr
  | some sl =>
    rw [hs] at hr
    have hsl := hr' sl hs
    refine zgl H hv hn (fun v q => ?_) (by rw [hsl]; intro e; subst e; cases hr)
    rw [hsl] at q
    cases q with
    | unset => cases hr
    | val q => cases hr; exact hQ v F s (Step.refl H.wd) (.val q)
    | own nf nx g z q => cases hr; exact hQ _ F s (Step.refl H.wd) (.bor nx g z q)
    | app a b c => cases hr
theorem run2 {n cf A env F s ρ ad m cm} (H : Here cx ε n cf A env F s ρ ad m cm) {l r : Expr} {xl xr : X} {o : Op} {res : R} {f : Value → Value → Sem Value} (hl : SoundE cx ε l xl) (hr : SoundE cx ε r xr) (ho : OpOK cx o (op2 f))
    (he : ev cf (.op o (.cons xl (.cons xr .nil))) ρ = some [res]) {Q : Value → Shared → Prop} {E : Value → Shared → Prop} (hQ : Post cx F s res Q) :
    wpAny (model cx.prog cx.w) A (eval l env) (fun a s₁ => wpAny (model cx.prog cx.w) A (eval r env) (fun b s₂ => wpAny (model cx.prog cx.w) A (f a b) Q E s₂) E s₁) E s := by
  obtain ⟨rs, h1, h2⟩ := ev_op he
  obtain ⟨ra, xs, ha, h3, rfl⟩ := zaW h1
  obtain ⟨rb, ys, hb, h4, rfl⟩ := zaW h3
  cases zdf h4
  refine hl n cf A env F s ρ ad m cm H ra ha _ _ fun a F' s' st qa => ?_
  refine hr n cf A env F' s' ρ ad m cm (H.step st) rb hb _ _ fun b F'' s'' st' qb => ?_
  exact ho n A F'' s'' [a, b] _ res H.ok H.bud st'.wd (.cons (st'.brep st.wd qa.brep) (.cons qb.brep .nil)) h2 _ _ (hQ.after (st.trans st'))
theorem zag {l r : Expr} {op : Operator} {pos : Pos} {xl xr : X} {o : Op} (hl : Sound cx ε l xl) (hr : Sound cx ε r xr) (ho : OpOK cx o (op2 (binaryOp op))) : Sound cx ε (.BinOp l op r pos) (.op o (.cons xl (.cons xr .nil))) := by
  refine Sound.ofE ?_ fun _ => rfl
  intro n cf A env F s ρ ad m cm H res he Q E hQ
  exact wpAny_BinOp (run2 H hl.ev hr.ev ho he hQ)
theorem zaf {l r : Expr} {op : CmpOp} {pos : Pos} {xl xr : X} {o : Op} (hl : Sound cx ε l xl) (hr : Sound cx ε r xr) (ho : OpOK cx o (op2 (compareOp op))) (hm : behindInMarks op r = false) : Sound cx ε (.Compare l [op] [r] pos) (.op o (.cons xl (.cons xr .nil))) := by
  have hE : SoundE cx ε (.Compare l [op] [r] pos) (.op o (.cons xl (.cons xr .nil))) := by
    intro n cf A env F s ρ ad m cm H res he Q E hQ
    exact wpAny_Compare1 (run2 H hl.ev hr.ev ho he hQ) hm
  refine ⟨hE, ?_⟩
  intro n cf A env F s ρ ad m cm H b hb Q E hQ
  unfold evT truthR at hb
  split at hb
  · rename_i res e
    refine wpAny_isTrue_Compare1 (run2 H hl.ev hr.ev ho e fun v F' s' st q => ?_) hm
    exact zc0 st.wd q.brep hb _ _ fun F'' s'' st' => hQ F'' s'' (st.trans st')
  · cases hb
theorem zdb {e : Expr} {op : UnaryOp} {pos : Pos} {x : X} {o : Op} (h : Sound cx ε e x) (ho : OpOK cx o (op1 (unaryOp op))) (hn : op ≠ .Not) : Sound cx ε (.UnaryOp op e pos) (.op o (.cons x .nil)) := by
  refine Sound.ofE ?_ fun _ => by cases op <;> first | rfl | exact absurd rfl hn
  intro n cf A env F s ρ ad m cm H res he Q E hQ
  obtain ⟨rs, h1, h2⟩ := ev_op he
  obtain ⟨ra, xs, ha, h3, rfl⟩ := zaW h1
  cases zdf h3
  show wpAny _ _ (do let v ← eval e env; standAt pos; holding [v] (unaryOp op v)) Q E s
  refine Ev.bind (h.ev n cf A env F s ρ ad m cm H ra ha) fun a F' s' st qa => ?_
  refine wpAny_bind (wpAny_standAt (wpAny_holding ?_))
  exact ho n A F' s' [a] _ res H.ok H.bud st.wd (.cons qa.brep .nil) h2 _ _ (hQ.after st)
theorem zbK {e : Expr} {pos : Pos} {x : X} (h : Sound cx ε e x) : Sound cx ε (.UnaryOp .Not e pos) (.not x) := by
  constructor
  · intro n cf A env F s ρ ad m cm H res he Q E hQ
    replace he := (zbs _).symm.trans he
    split at he
    · rename_i r e1
      obtain ⟨b, hb, h2⟩ := Option.map_eq_some_iff.mp he
      cases h2
      show wpAny _ _ (do let v ← eval e env; standAt pos; holding [v] (unaryOp .Not v)) Q E s
      refine Ev.bind (h.ev n cf A env F s ρ ad m cm H r e1) fun a F' s' st qa => ?_
      refine wpAny_bind (wpAny_standAt (wpAny_holding ?_))
      exact not_of (zc0 st.wd qa.brep hb _ _ fun F'' s'' st' => hQ _ F'' s'' (st.trans st') (.val (.bool _)))
    · cases he
  · intro n cf A env F s ρ ad m cm H b hb Q E hQ
    unfold evT truthR at hb
    split at hb
    · rename_i res e1
      replace e1 := (zbs _).symm.trans e1
      split at e1
      · rename_i r e2
        obtain ⟨b', hb', h2⟩ := Option.map_eq_some_iff.mp e1
        cases h2
        simp only [R.ds, D.truth, Option.some.injEq] at hb
        subst hb
        show wpAny _ _ (do return !(← isTrue e env (eval e env))) Q E s
        refine wpAny_bind (h.tr n cf A env F s ρ ad m cm H b' (by unfold evT truthR; rw [e2]; exact hb') _ _ fun F' s' st => ?_)
        exact wpAny_pure (hQ F' s' st)
      · cases e1
    · cases hb
theorem zcL {c t f : Expr} {pos : Pos} {xc xt xf : X} (hc : Sound cx ε c xc) (ht : Sound cx ε t xt) (hf : Sound cx ε f xf) : Sound cx ε (.IfExp c t f pos) (.ite xc xt xf) := by
  constructor
  · intro n cf A env F s ρ ad m cm H res he Q E hQ
    replace he := (zbe _).symm.trans he
    show wpAny _ _ (do if ← isTrue c env (eval c env) then eval t env else eval f env) Q E s
    split at he
    · rename_i hb
      refine wpAny_bind (hc.tr n cf A env F s ρ ad m cm H true hb _ _ fun F' s' st => ?_)
      exact ht.ev n cf A env F' s' ρ ad m cm (H.step st) res he _ _ (hQ.after st)
    · rename_i hb
      refine wpAny_bind (hc.tr n cf A env F s ρ ad m cm H false hb _ _ fun F' s' st => ?_)
      exact hf.ev n cf A env F' s' ρ ad m cm (H.step st) res he _ _ (hQ.after st)
    · cases he
  · intro n cf A env F s ρ ad m cm H b hb Q E hQ
    unfold evT at hb
    have he : ev cf (.ite xc xt xf) ρ = ev cf (.ite xc xt xf) ρ := rfl
    show wpAny _ _ (do if ← isTrue c env (eval c env) then isTrue t env (eval t env) else isTrue f env (eval f env)) Q E s
    rw [zbe] at hb
    split at hb
    · rename_i hb'
      refine wpAny_bind (hc.tr n cf A env F s ρ ad m cm H true hb' _ _ fun F' s' st => ?_)
      exact ht.tr n cf A env F' s' ρ ad m cm (H.step st) b hb _ _ fun F'' s'' st' => hQ F'' s'' (st.trans st')
    · rename_i hb'
      refine wpAny_bind (hc.tr n cf A env F s ρ ad m cm H false hb' _ _ fun F' s' st => ?_)
      exact hf.tr n cf A env F' s' ρ ad m cm (H.step st) b hb _ _ fun F'' s'' st' => hQ F'' s'' (st.trans st')
    · cases hb
inductive SoundB (cx : XCx) (ε : Sc) : BoolOp → List Expr → X → Prop
  | one {op : BoolOp} {e : Expr} {x : X} : Sound cx ε e x → SoundB cx ε op [e] x
  | and {e : Expr} {x : X} {es : List Expr} {y : X} : Sound cx ε e x → SoundB cx ε .And es y → SoundB cx ε .And (e :: es) (.and x y)
  | or {e : Expr} {x : X} {es : List Expr} {y : X} : Sound cx ε e x → SoundB cx ε .Or es y → SoundB cx ε .Or (e :: es) (.or x y)
theorem SoundB.ne {op : BoolOp} {es : List Expr} {x : X} (h : SoundB cx ε op es x) : ∃ e r, es = e :: r := by cases h <;> exact ⟨_, _, rfl⟩
theorem zg1 {pos : Pos} {op : BoolOp} {x y : Sem Value} {r : List (Sem Value)} : boolOp pos op (x :: y :: r) = (do
    let v ← x
    standAt pos
    let t ← holding [v] (truthy v)
    match op, t with
    | .And, false | .Or, true => pure v
    | _, _ => boolOp pos op (y :: r)) := rfl
theorem zmk {n cf A env} {pos : Pos} {op : BoolOp} {es : List Expr} {x : X} (h : SoundB cx ε op es x) :
    ∀ F s ρ ad m cm, Here cx ε n cf A env F s ρ ad m cm → ∀ r, ev cf x ρ = some [r] → Ev cx A F s (boolOp pos op (evalEach es env)) r := by
  induction h with
  | one h => intro F s ρ ad m cm H r hr; exact h.ev n cf A env F s ρ ad m cm H r hr
  | @and e x es y h1 h2 ih =>
    intro F s ρ ad m cm H r hr Q E hQ
    obtain ⟨e2, r2, rfl⟩ := h2.ne
    show wpAny _ _ (boolOp pos .And (eval e env :: eval e2 env :: evalEach r2 env)) Q E s
    rw [zg1]
    replace hr := (zbi _).symm.trans hr
    split at hr
    · rename_i x1 e1
      refine Ev.bind (h1.ev n cf A env F s ρ ad m cm H x1 e1) fun v F' s' st q => ?_
      refine wpAny_bind (wpAny_standAt (wpAny_bind (wpAny_holding ?_)))
      split at hr
      · rename_i hb
        refine zc0 st.wd q.brep hb _ _ fun F'' s'' st' => ?_
        exact ih F'' s'' ρ ad m cm ((H.step st).step st') r hr _ _ (hQ.after (st.trans st'))
      · rename_i hb
        cases hr
        refine zc0 st.wd q.brep hb _ _ fun F'' s'' st' => ?_
        exact wpAny_pure (hQ v F'' s'' (st.trans st') (q.step st' st.wd))
      · cases hr
    · cases hr
  | @or e x es y h1 h2 ih =>
    intro F s ρ ad m cm H r hr Q E hQ
    obtain ⟨e2, r2, rfl⟩ := h2.ne
    show wpAny _ _ (boolOp pos .Or (eval e env :: eval e2 env :: evalEach r2 env)) Q E s
    rw [zg1]
    replace hr := (zb1 _).symm.trans hr
    split at hr
    · rename_i x1 e1
      refine Ev.bind (h1.ev n cf A env F s ρ ad m cm H x1 e1) fun v F' s' st q => ?_
      refine wpAny_bind (wpAny_standAt (wpAny_bind (wpAny_holding ?_)))
      split at hr
      · rename_i hb
        refine zc0 st.wd q.brep hb _ _ fun F'' s'' st' => ?_
        exact ih F'' s'' ρ ad m cm ((H.step st).step st') r hr _ _ (hQ.after (st.trans st'))
      · rename_i hb
        cases hr
        refine zc0 st.wd q.brep hb _ _ fun F'' s'' st' => ?_
        exact wpAny_pure (hQ v F'' s'' (st.trans st') (q.step st' st.wd))
      · cases hr
    · cases hr
theorem zk7 {n cf A env} {op : BoolOp} {es : List Expr} {x : X} (h : SoundB cx ε op es x) :
    ∀ F s ρ ad m cm, Here cx ε n cf A env F s ρ ad m cm → ∀ b, evT cf x ρ = some b → EvB cx A F s (allTrue op es env) b := by
  induction h with
  | @one op e x h =>
    intro F s ρ ad m cm H b hb Q E hQ
    show wpAny _ _ (do
      match op, ← isTrue e env (eval e env) with
      | .And, false => pure false
      | .Or, true => pure true
      | _, _ => allTrue op [] env) Q E s
    refine wpAny_bind (h.tr n cf A env F s ρ ad m cm H b hb _ _ fun F' s' st => ?_)
    cases op <;> cases b <;> exact wpAny_pure (hQ F' s' st)
  | @and e x es y h1 h2 ih =>
    intro F s ρ ad m cm H b hb Q E hQ
    show wpAny _ _ (do
      match BoolOp.And, ← isTrue e env (eval e env) with
      | .And, false => pure false
      | .Or, true => pure true
      | _, _ => allTrue .And es env) Q E s
    unfold evT at hb
    rw [zbi] at hb
    split at hb
    · rename_i x1 e1
      split at hb
      · rename_i hb'
        refine wpAny_bind (h1.tr n cf A env F s ρ ad m cm H true (by unfold evT truthR; rw [e1]; exact hb') _ _ fun F' s' st => ?_)
        exact ih F' s' ρ ad m cm (H.step st) b hb _ _ fun F'' s'' st' => hQ F'' s'' (st.trans st')
      · rename_i hb'
        refine wpAny_bind (h1.tr n cf A env F s ρ ad m cm H false (by unfold evT truthR; rw [e1]; exact hb') _ _ fun F' s' st => ?_)
        have : b = false := by
          have : some b = some false := hb.symm.trans hb'
          cases this; rfl
        subst this
        exact wpAny_pure (hQ F' s' st)
      · cases hb
    · cases hb
  | @or e x es y h1 h2 ih =>
    intro F s ρ ad m cm H b hb Q E hQ
    show wpAny _ _ (do
      match BoolOp.Or, ← isTrue e env (eval e env) with
      | .And, false => pure false
      | .Or, true => pure true
      | _, _ => allTrue .Or es env) Q E s
    unfold evT at hb
    rw [zb1] at hb
    split at hb
    · rename_i x1 e1
      split at hb
      · rename_i hb'
        refine wpAny_bind (h1.tr n cf A env F s ρ ad m cm H false (by unfold evT truthR; rw [e1]; exact hb') _ _ fun F' s' st => ?_)
        exact ih F' s' ρ ad m cm (H.step st) b hb _ _ fun F'' s'' st' => hQ F'' s'' (st.trans st')
      · rename_i hb'
        refine wpAny_bind (h1.tr n cf A env F s ρ ad m cm H true (by unfold evT truthR; rw [e1]; exact hb') _ _ fun F' s' st => ?_)
        have : b = true := by
          have : some b = some true := hb.symm.trans hb'
          cases this; rfl
        subst this
        exact wpAny_pure (hQ F' s' st)
      · cases hb
    · cases hb
theorem zaE {op : BoolOp} {es : List Expr} {x : X} {pos : Pos} (h : SoundB cx ε op es x) : Sound cx ε (.BoolOp op es pos) x :=
  ⟨fun _ _ _ _ F s ρ ad m cm H r hr => zmk h F s ρ ad m cm H r hr, fun _ _ _ _ F s ρ ad m cm H b hb => zk7 h F s ρ ad m cm H b hb⟩
end
end Mine
end MpDx
section MpEx
open PySem PySem.Calls PyProof.Rows
namespace Mine
section
variable {cx : XCx}
theorem zaS : OpOK cx .add (op2 (binaryOp .Add)) := by
  intro n A F s vs ds r ok bud w q he Q E hQ
  replace he : opAdd ds = some r := he
  rcases ds with _ | ⟨a0, t0⟩
  · cases he
  cases a0 <;> try (cases he; done)
  all_goals
    rcases t0 with _ | ⟨a1, t1⟩
    · cases he
    cases a1 <;> try (cases he; done)
    rcases t1 with _ | ⟨a2, t2⟩ <;> try (cases he; done)
  · cases he
    obtain ⟨x, y, rfl, qa, qb⟩ := q.two
    obtain ⟨t, rfl⟩ := qa.int_inv
    obtain ⟨u, rfl⟩ := qb.int_inv
    exact P.add_int (hQ _ F _ ((Step.refl w).toks _) (.val (.int _ _)))
  · rename_i a b
    replace he : (if a.length + b.length ≤ lim then some (R.val (.str (a ++ b))) else none) = some r := he
    split at he <;> cases he
    rename_i hl
    obtain ⟨x, y, rfl, qa, qb⟩ := q.two
    obtain ⟨t, rfl, pa, za⟩ := qa.str_inv
    obtain ⟨u, rfl, pb, zb⟩ := qb.str_inv
    refine PyProof.Rows.add_str (fun t' tk => hQ _ F _ ((Step.refl w).toks _) (.val ?_)) (by
      show a.toArray.size + b.toArray.size ≤ sizeLine
      rw [List.size_toArray, List.size_toArray]; exact zbm hl)
    have e : (PySem.Str.mk a.toArray ++ PySem.Str.mk b.toArray) = PySem.Str.mk (a ++ b).toArray := by
      show PySem.Str.mk (a.toArray ++ b.toArray) = _
      simp
    rw [e]
    exact .str _ (fun c hc => (List.mem_append.mp hc).elim (pa c) (pb c)) (by rw [List.length_append]; exact hl)
  · rename_i a b
    replace he : (if a.length + b.length ≤ lim then some (R.own (a ++ b)) else none) = some r := he
    split at he <;> cases he
    rename_i hl
    obtain ⟨x, y, rfl, qa, qb⟩ := q.two
    obtain ⟨l, vs, k, rfl, nx, g, z, q1⟩ := qa.list_inv w
    obtain ⟨l', vs', k', rfl, nx', g', z', q2⟩ := qb.list_inv w
    have hz : vs.length + vs'.length ≤ lim := by rw [q1.length, q2.length]; exact hl
    have e : vs.toArray ++ vs'.toArray = (vs ++ vs').toArray := by simp
    refine concat_meets ⟨_, g, rfl⟩ ⟨_, g', rfl⟩ noFill_list_add seq_list_add PySem.F.slot_list_add PySem.F.entry_list_add (PySem.F.args_list_add_2 _ _) (list_addW l l' vs.toArray vs'.toArray k k' none none #[] #[] (by simpa using zbm hz)) ⟨g, g', ?_⟩
    rw [e]
    refine hQ _ F _ (Step.push ok w _ _) (.pushOwn w (by rw [List.length_append]; exact hz) (q1.append q2))
theorem zhA : OpOK cx .sub (op2 (binaryOp .Sub)) := by
  intro n A F s vs ds r ok bud w q he Q E hQ
  delta opF at he; dsimp only at he
  unfold opSub at he
  split at he <;> cases he
  obtain ⟨x, y, rfl, qa, qb⟩ := q.two
  obtain ⟨t, rfl⟩ := qa.int_inv
  obtain ⟨u, rfl⟩ := qb.int_inv
  exact P.sub_int (hQ _ F _ ((Step.refl w).toks _) (.val (.int _ _)))
theorem zfO : OpOK cx .neg (op1 (unaryOp .USub)) := by
  intro n A F s vs ds r ok bud w q he Q E hQ
  delta opF at he; dsimp only at he
  unfold opNeg at he
  split at he <;> cases he
  obtain ⟨x, rfl, qa⟩ := q.one
  obtain ⟨t, rfl⟩ := qa.int_inv
  exact P.neg_int (hQ _ F _ ((Step.refl w).toks _) (.val (.int _ _)))
theorem zj0 : OpOK cx .fdiv (op2 (binaryOp .FloorDiv)) := by
  intro n A F s vs ds r ok bud w q he Q E hQ
  delta opF at he; dsimp only at he
  unfold opDiv at he
  split at he
  · rename_i a b
    split at he <;> cases he
    rename_i hb
    obtain ⟨x, y, rfl, qa, qb⟩ := q.two
    obtain ⟨t, rfl⟩ := qa.int_inv
    obtain ⟨u, rfl⟩ := qb.int_inv
    obtain ⟨env, l, e1, e2, e3, e4, e5⟩ := bud.fr
    refine PyProof.Rows.floordiv_int hb (hQ _ F _ ((Step.refl w).toks _) (.val (.int _ _))) (.inr (PylongRoom.of (w.lim ok) ?_ (SeerAt.of (ok.seer _ w.base) ok.tree e1 e2 e3 e4 e5)))
    have := bud.dp
    show A.depth + 100 < 1000
    omega
  · cases he
theorem zjZ : OpOK cx .mod (op2 (binaryOp .Mod)) := by
  intro n A F s vs ds r ok bud w q he Q E hQ
  delta opF at he; dsimp only at he
  unfold opMod at he
  split at he
  · rename_i a b
    split at he <;> cases he
    rename_i hb
    obtain ⟨x, y, rfl, qa, qb⟩ := q.two
    obtain ⟨t, rfl⟩ := qa.int_inv
    obtain ⟨u, rfl⟩ := qb.int_inv
    exact PyProof.Rows.mod_int' hb (hQ _ F _ ((Step.refl w).toks _) (.val (.int _ _)))
  · cases he
theorem zhJ {op : CmpOp} {f : D → D → Option Bool} {vs : List Value} {ds : List D} {F : Addr → Prop} {s : Shared} {A : Around} {r : R} (w : Wd cx F s) (q : BRepL cx F s.heap vs ds) (he : opBool f ds = some r)
    (h : ∀ x y a b c, BRep cx F s.heap x a → BRep cx F s.heap y b → f a b = some c → ∀ (Q : Value → Shared → Prop) (E : Value → Shared → Prop), (∀ k, Q (.bool c) { s with toks := k }) → wpAny (model cx.prog cx.w) A (compareOp op x y) Q E s) :
    Ev cx A F s (op2 (compareOp op) vs) r := by
  intro Q E hQ
  unfold opBool at he
  split at he
  · obtain ⟨c, hc, e⟩ := Option.map_eq_some_iff.mp he
    cases e
    obtain ⟨x, y, rfl, qa, qb⟩ := q.two
    exact h x y _ _ c qa qb hc Q E fun k => hQ _ F _ ((Step.refl w).toks k) (.val (.bool _))
  · cases he
theorem BRep.reads {F : Addr → Prop} {h : Heap} {v : Value} {d : D} {n : Nat} (q : BRep cx F h v d) (e : d.ok n = true) (hn : n ≤ 60) : (∃ as, Reads h v d.toPy as) ∧ PySem.SeqAt.shaped d.toPy = true := by
  cases q with
  | rep q => exact ⟨q.reads e, q.shaped e hn⟩
  | own nx g z q =>
    cases n with
    | zero => simp [D.ok] at e
    | succ n =>
      simp only [D.ok] at e
      obtain ⟨as, x⟩ := q.reads e
      refine ⟨⟨_, by unfold D.toPy; exact Reads.list g rfl rfl (by rw [List.toList_toArray]; exact x)⟩, ?_⟩
      have l := q.lay e
      unfold PySem.SeqAt.shaped D.toPy PyData.canLay0 PyData.depth
      rw [l.1, Bool.true_and]; exact decide_eq_true (by omega)
theorem ziG (a b : List Nat) : ((PySem.Str.mk a.toArray).cps.toList == (PySem.Str.mk b.toArray).cps.toList) = decide (a = b) := by
  show (a == b) = decide (a = b)
  by_cases h : a = b
  · subst h; simp
  · simp [h]
theorem eq_ok {F : Addr → Prop} {s : Shared} {A : Around} {n : Nat} {x y : Value} {a b : D} {c : Bool} (bud : BudE n A) (qa : BRep cx F s.heap x a) (qb : BRep cx F s.heap y b) (hc : eqD a b = some c)
    {Q : Value → Shared → Prop} {E : Value → Shared → Prop} (h : ∀ k, Q (.bool c) { s with toks := k }) : wpAny (model cx.prog cx.w) A (compareOp .Eq x y) Q E s := by
  unfold eqD at hc
  split at hc
  · cases hc
    obtain ⟨t, rfl, _, _⟩ := qa.str_inv
    obtain ⟨u, rfl, _, _⟩ := qb.str_inv
    exact P.eq_str (by rw [ziG]; exact h s.toks)
  · cases hc
    obtain ⟨t, rfl⟩ := qa.int_inv
    obtain ⟨u, rfl⟩ := qb.int_inv
    exact P.eq_int (by rw [show ∀ i j : Int, (i == j) = decide (i = j) from fun i j => rfl]; exact h s.toks)
  · split at hc <;> cases hc
    rename_i hok
    simp only [Bool.and_eq_true] at hok
    obtain ⟨⟨as, ra⟩, sa⟩ := qa.reads hok.1 (by decide)
    obtain ⟨⟨bs, rb⟩, sb⟩ := qb.reads hok.2 (by decide)
    exact PyProof.Rows.eq_dataH ra rb sa sb (bud.lt (by decide)) (h s.toks)
theorem ne_ok {F : Addr → Prop} {s : Shared} {A : Around} {n : Nat} {x y : Value} {a b : D} {c : Bool} (bud : BudE n A) (qa : BRep cx F s.heap x a) (qb : BRep cx F s.heap y b) (hc : eqD a b = some c)
    {Q : Value → Shared → Prop} {E : Value → Shared → Prop} (h : ∀ k, Q (.bool (!c)) { s with toks := k }) : wpAny (model cx.prog cx.w) A (compareOp .NotEq x y) Q E s := by
  unfold eqD at hc
  split at hc
  · cases hc
    obtain ⟨t, rfl, _, _⟩ := qa.str_inv
    obtain ⟨u, rfl, _, _⟩ := qb.str_inv
    exact P.ne_str (by show Q (.bool (!(_ == _))) s; rw [ziG]; exact h s.toks)
  · cases hc
    obtain ⟨t, rfl⟩ := qa.int_inv
    obtain ⟨u, rfl⟩ := qb.int_inv
    exact P.ne_int (by show Q (.bool (!(_ == _))) s; exact h s.toks)
  · split at hc <;> cases hc
    rename_i hok
    simp only [Bool.and_eq_true] at hok
    obtain ⟨⟨as, ra⟩, sa⟩ := qa.reads hok.1 (by decide)
    obtain ⟨⟨bs, rb⟩, sb⟩ := qb.reads hok.2 (by decide)
    exact PyProof.Rows.ne_dataH ra rb sa sb (bud.lt (by decide)) (h s.toks)
theorem op_eq : OpOK cx .eq (op2 (compareOp .Eq)) := by
  intro n A F s vs ds r ok bud w q he
  exact zhJ w q he fun x y a b c qa qb hc Q E h => eq_ok bud qa qb hc h
theorem op_ne : OpOK cx .ne (op2 (compareOp .NotEq)) := by
  intro n A F s vs ds r ok bud w q he
  refine zhJ w q he fun x y a b c qa qb hc Q E h => ?_
  obtain ⟨c', hc', rfl⟩ := Option.map_eq_some_iff.mp hc
  exact ne_ok bud qa qb hc' h
theorem in_ok {F : Addr → Prop} {s : Shared} {A : Around} {n : Nat} {x y : Value} {a b : D} {c : Bool} (w : Wd cx F s) (bud : BudE n A) (qa : BRep cx F s.heap x a) (qb : BRep cx F s.heap y b) (hc : inD a b = some c)
    {Q : Value → Shared → Prop} {E : Value → Shared → Prop} (h : ∀ k, Q (.bool c) { s with toks := k }) : wpAny (model cx.prog cx.w) A (compareOp .In x y) Q E s := by
  have hu : A.units + 65 < cLine := bud.lt (by decide)
  unfold inD at hc
  split at hc
  · rename_i l
    split at hc <;> cases hc
    rename_i hok
    simp only [Bool.and_eq_true] at hok
    obtain ⟨⟨as, ra⟩, sa⟩ := qa.reads hok.2 (by decide)
    obtain ⟨⟨bs, rb⟩, sb⟩ := qb.reads (n := 9) (by simp only [D.ok]; exact hok.1) (by decide)
    unfold D.toPy at rb sb
    have l1 := SeqAt.canLay_of_shaped sb
    have l2 := SeqAt.canLay_of_shaped sa
    have l3 := SeqAt.depth_of_shaped sa
    have l4 := Nat.min_le_right (PyData.depthAll (D.toPys l)) a.toPy.depth
    exact SeqAt.in_list_reads rb ra l1 l2 (by show A.units + 1 + _ < 9900; have := bud.un; omega) (h s.toks)
  · rename_i l
    split at hc <;> cases hc
    rename_i hok
    simp only [Bool.and_eq_true] at hok
    obtain ⟨⟨as, ra⟩, sa⟩ := qa.reads hok.2 (by decide)
    obtain ⟨⟨bs, rb⟩, sb⟩ := qb.reads (n := 9) (by simp only [D.ok]; exact hok.1) (by decide)
    unfold D.toPy at rb sb
    have l1 := SeqAt.canLay_of_shaped sb
    have l2 := SeqAt.canLay_of_shaped sa
    have l3 := SeqAt.depth_of_shaped sa
    have l4 := Nat.min_le_right (PyData.depthAll (D.toPys l)) a.toPy.depth
    exact SeqAt.in_tuple_reads rb ra l1 l2 (by show A.units + 1 + _ < 9900; have := bud.un; omega) (h s.toks)
  · split at hc <;> cases hc
    obtain ⟨t, rfl, _, _⟩ := qa.str_inv
    obtain ⟨u, rfl, _, _⟩ := qb.str_inv
    exact P.in_str (h s.toks)
  · cases hc
theorem zmK {F : Addr → Prop} {s : Shared} {A : Around} {n : Nat} {x y : Value} {a b : D} {c : Bool} (w : Wd cx F s) (bud : BudE n A) (qa : BRep cx F s.heap x a) (qb : BRep cx F s.heap y b) (hc : inD a b = some c)
    {Q : Value → Shared → Prop} {E : Value → Shared → Prop} (h : ∀ k, Q (.bool (!c)) { s with toks := k }) : wpAny (model cx.prog cx.w) A (compareOp .NotIn x y) Q E s := by
  have hu : A.units + 65 < cLine := bud.lt (by decide)
  unfold inD at hc
  split at hc
  · rename_i l
    split at hc <;> cases hc
    rename_i hok
    simp only [Bool.and_eq_true] at hok
    obtain ⟨⟨as, ra⟩, sa⟩ := qa.reads hok.2 (by decide)
    obtain ⟨⟨bs, rb⟩, sb⟩ := qb.reads (n := 9) (by simp only [D.ok]; exact hok.1) (by decide)
    unfold D.toPy at rb sb
    have l1 := SeqAt.canLay_of_shaped sb
    have l2 := SeqAt.canLay_of_shaped sa
    have l3 := SeqAt.depth_of_shaped sa
    have l4 := Nat.min_le_right (PyData.depthAll (D.toPys l)) a.toPy.depth
    exact SeqAt.notIn_list_reads rb ra l1 l2 (by show A.units + 1 + _ < 9900; have := bud.un; omega) (h s.toks)
  · rename_i l
    split at hc <;> cases hc
    rename_i hok
    simp only [Bool.and_eq_true] at hok
    obtain ⟨⟨as, ra⟩, sa⟩ := qa.reads hok.2 (by decide)
    obtain ⟨⟨bs, rb⟩, sb⟩ := qb.reads (n := 9) (by simp only [D.ok]; exact hok.1) (by decide)
    unfold D.toPy at rb sb
    have l1 := SeqAt.canLay_of_shaped sb
    have l2 := SeqAt.canLay_of_shaped sa
    have l3 := SeqAt.depth_of_shaped sa
    have l4 := Nat.min_le_right (PyData.depthAll (D.toPys l)) a.toPy.depth
    exact SeqAt.notIn_tuple_reads rb ra l1 l2 (by show A.units + 1 + _ < 9900; have := bud.un; omega) (h s.toks)
  · split at hc <;> cases hc
    obtain ⟨t, rfl, _, _⟩ := qa.str_inv
    obtain ⟨u, rfl, _, _⟩ := qb.str_inv
    exact P.notIn_str (h s.toks)
  · cases hc
theorem op_in : OpOK cx .in_ (op2 (compareOp .In)) := by
  intro n A F s vs ds r ok bud w q he
  exact zhJ w q he fun x y a b c qa qb hc Q E h => in_ok w bud qa qb hc h
theorem zmE : OpOK cx .notin (op2 (compareOp .NotIn)) := by
  intro n A F s vs ds r ok bud w q he
  refine zhJ w q he fun x y a b c qa qb hc Q E h => ?_
  obtain ⟨c', hc', rfl⟩ := Option.map_eq_some_iff.mp hc
  exact zmK w bud qa qb hc' h
theorem zjY {op : CmpOp} {f : Int → Int → Bool} {g : List Nat → List Nat → Bool} {vs : List Value} {ds : List D} {F : Addr → Prop} {s : Shared} {A : Around} {r : R} (w : Wd cx F s) (q : BRepL cx F s.heap vs ds) (he : opCmp f g ds = some r)
    (h1 : ∀ a b t u (Q : Value → Shared → Prop) (E : Value → Shared → Prop), Q (.bool (f a b)) s → wpAny (model cx.prog cx.w) A (compareOp op (.int a t) (.int b u)) Q E s)
    (h2 : ∀ a b t u (Q : Value → Shared → Prop) (E : Value → Shared → Prop), Q (.bool (g a b)) s → wpAny (model cx.prog cx.w) A (compareOp op (.str ⟨a.toArray⟩ t) (.str ⟨b.toArray⟩ u)) Q E s) :
    Ev cx A F s (op2 (compareOp op) vs) r := by
  intro Q E hQ
  rcases ds with _ | ⟨a0, t0⟩
  · cases he
  cases a0 <;> try (cases he; done)
  all_goals
    rcases t0 with _ | ⟨a1, t1⟩
    · cases he
    cases a1 <;> try (cases he; done)
    rcases t1 with _ | ⟨a2, t2⟩ <;> try (cases he; done)
  · cases he
    obtain ⟨x, y, rfl, qa, qb⟩ := q.two
    obtain ⟨t, rfl⟩ := qa.int_inv
    obtain ⟨u, rfl⟩ := qb.int_inv
    exact h1 _ _ _ _ _ _ (hQ _ F _ (Step.refl w) (.val (.bool _)))
  · cases he
    obtain ⟨x, y, rfl, qa, qb⟩ := q.two
    obtain ⟨t, rfl, _, _⟩ := qa.str_inv
    obtain ⟨u, rfl, _, _⟩ := qb.str_inv
    exact h2 _ _ _ _ _ _ (hQ _ F _ (Step.refl w) (.val (.bool _)))
theorem op_lt : OpOK cx .lt (op2 (compareOp .Lt)) := fun n A F s vs ds r ok bud w q he =>
  zjY w q he (fun _ _ _ _ _ _ h => P.lt_int h) fun _ _ _ _ _ _ h => P.lt_str h
theorem op_le : OpOK cx .le (op2 (compareOp .LtE)) := fun n A F s vs ds r ok bud w q he =>
  zjY w q he (fun _ _ _ _ _ _ h => P.le_int h) fun _ _ _ _ _ _ h => P.le_str h
theorem op_gt : OpOK cx .gt (op2 (compareOp .Gt)) := fun n A F s vs ds r ok bud w q he =>
  zjY w q he (fun _ _ _ _ _ _ h => P.gt_int h) fun _ _ _ _ _ _ h => P.gt_str h
theorem op_ge : OpOK cx .ge (op2 (compareOp .GtE)) := fun n A F s vs ds r ok bud w q he =>
  zjY w q he (fun _ _ _ _ _ _ h => P.ge_int h) fun _ _ _ _ _ _ h => P.ge_str h
end
end Mine
end MpEx
section MpFx
open PySem PySem.Calls PyProof.Rows PySem.Builtin.Str
namespace Mine
section
variable {cx : XCx}
theorem zdJ {i : Int} (h : small i = true) : -1000000000 ≤ i ∧ i ≤ 1000000000 := by
  unfold small at h
  simpa [Bool.and_eq_true, decide_eq_true_eq] using h
theorem zjX (i : Int) (n : Nat) : place i n = seqIndex? i n := by
  rcases Int.lt_or_le i 0 with h | h
  · have h0 : ¬ 0 ≤ i := by omega
    simp only [place, seqIndex?, if_neg h0, if_pos h]
    by_cases h2 : 0 ≤ i + n
    · have h3 : i + n < n := by omega
      simp [h2, h3]
    · simp [h2]
  · have h0 : ¬ i < 0 := by omega
    simp only [place, seqIndex?, if_pos h, if_neg h0]
    by_cases h2 : i < n
    · simp [h, h2]
    · simp [h2]
theorem zmH : OpOK cx .index (op2 getItem) := by
  intro n A F s vs ds r ok bud w q he Q E hQ
  replace he : opIndex ds = some r := he
  rcases ds with _ | ⟨a0, t0⟩
  · cases he
  cases a0 <;> try (cases he; done)
  all_goals
    rcases t0 with _ | ⟨a1, t1⟩
    · cases he
    cases a1 <;> try (cases he; done)
    rcases t1 with _ | ⟨a2, t2⟩ <;> try (cases he; done)
  · rename_i l i
    replace he : (if small i then (match place i l.length with | some k => ((l[k]?).map fun c => R.val (.str [c])) | none => none) else none) = some r := he
    split at he
    · rename_i hs
      have hs := zdJ hs
      split at he
      · rename_i k hk
        obtain ⟨c, hc, e⟩ := Option.map_eq_some_iff.mp he
        cases e
        obtain ⟨x, y, rfl, qa, qb⟩ := q.two
        obtain ⟨t, rfl, p, z⟩ := qa.str_inv
        obtain ⟨u, rfl⟩ := qb.int_inv
        refine P.getItem_str (c := c) (by simp; omega) ?_ (hQ _ F _ ((Step.refl w).toks _) (.val ?_))
        · rw [zjX] at hk
          show (seqIndex? i l.toArray.size).bind _ = _
          rw [List.size_toArray, hk]
          show l.toArray[k]? = _
          simpa using hc
        · have : c ∈ l := List.mem_of_getElem? hc
          exact Rep.str (l := [c]) _ (fun d hd => by rw [List.mem_singleton.mp hd]; exact p c this) (by show 1 ≤ lim; decide)
      · cases he
    · cases he
  · rename_i l i
    replace he : (if small i then (match place i l.length with | some k => ((l[k]?).map R.val) | none => none) else none) = some r := he
    split at he
    · rename_i hs
      have hs := zdJ hs
      split at he
      · rename_i k hk
        obtain ⟨d, hc, e⟩ := Option.map_eq_some_iff.mp he
        cases e
        obtain ⟨x, y, rfl, qa, qb⟩ := q.two
        obtain ⟨a, ws, m, rfl, nx, g, z, ql⟩ := qa.list_inv w
        obtain ⟨u, rfl⟩ := qb.int_inv
        obtain ⟨v, hv, rv⟩ := ql.get hc
        have hl := ql.length
        unfold place at hk
        split at hk
        · rename_i h0
          split at hk <;> cases hk
          rename_i h1
          exact wpAny_getItem_list (zbn g) h0 (by omega) (by simpa using hv) (hQ _ F _ (Step.refl w) (.val rv))
        · rename_i h0
          split at hk <;> cases hk
          rename_i h1
          exact wpAny_getItem_list_neg (zbn g) (by omega) (by rw [List.size_toArray, hl]; omega) (by omega) (by rw [List.size_toArray, hl]; simpa using hv) (hQ _ F _ (Step.refl w) (.val rv))
      · cases he
    · cases he
  · rename_i l i
    replace he : (if small i then (match place i l.length with | some k => ((l[k]?).map R.val) | none => none) else none) = some r := he
    split at he
    · rename_i hs
      have hs := zdJ hs
      split at he
      · rename_i k hk
        obtain ⟨d, hc, e⟩ := Option.map_eq_some_iff.mp he
        cases e
        obtain ⟨x, y, rfl, qa, qb⟩ := q.two
        obtain ⟨a, ws, m, rfl, f, g, z, ql⟩ := qa.tup_inv
        obtain ⟨u, rfl⟩ := qb.int_inv
        obtain ⟨v, hv, rv⟩ := ql.get hc
        rw [zjX] at hk
        exact PyProof.Rows.getItem_tuple (zii g) (by omega) (by omega) (by rw [List.size_toArray, ql.length]; exact hk) (by simpa using hv) (hQ _ F _ (Step.refl w) (.val rv))
      · cases he
    · cases he
theorem clip_eq (i : Int) (n : Nat) : clip i n = clipAt n i := by
  unfold clip clipAt
  by_cases h : i < 0
  · rw [if_pos h, if_pos h, Int.min_eq_left (by have := Int.add_le_add_right (Int.le_of_lt h) (n : Int); rwa [Int.zero_add] at this)]
    rcases Int.le_total 0 (i + n) with q | q
    · rw [Int.max_eq_right q]
    · rw [Int.max_eq_left q, Int.toNat_of_nonpos q]; rfl
  · rw [if_neg h, if_neg h]
    by_cases g : i < n
    · rw [if_pos g, Int.min_eq_left (Int.le_of_lt g), Int.max_eq_right (Int.not_lt.mp h)]
    · rw [if_neg g, Int.min_eq_right (Int.not_lt.mp g), Int.max_eq_right (Int.natCast_nonneg n)]; rfl
theorem zgJ {F : Addr → Prop} {h : Heap} {v : Value} {d : D} {o : Option Int} (q : BRep cx F h v d) (e : partD d = some o) : IsPart v o ∧ (∃ p : Option (Int × Tok), v = partValue p ∧ p.map (·.1) = o) := by
  cases d <;> try (cases e; done)
  · cases e; rw [q.none_inv]; exact ⟨.none, none, rfl, rfl⟩
  · rename_i i
    replace e : (if small i then some (some i) else none) = some o := e
    split at e <;> cases e
    obtain ⟨t, rfl⟩ := q.int_inv
    exact ⟨.int _ t, some (_, t), rfl, rfl⟩
theorem zek {d : D} {k n b : Nat} (h : bound d k n = some b) : ∃ o, partD d = some o ∧ b = o.elim k (clipAt n) := by
  cases d <;> try (cases h; done)
  · cases h; exact ⟨none, rfl, rfl⟩
  · rename_i i
    replace h : (if small i then some (clip i n) else none) = some b := h
    split at h <;> cases h
    rename_i hi
    exact ⟨some i, if_pos hi, clip_eq _ _⟩
theorem zfN (vs : List Value) (lo hi st : Option Int) : slicePick vs.toArray lo hi st = (pick vs lo hi st).toArray := by
  unfold slicePick pick
  simp only [List.size_toArray]
  have e : (fun a : Nat => vs.toArray[a]?) = fun a => vs[a]? := by funext a; simp
  rw [e]
theorem RepL.pick {T : Nat → Addr} {F : Addr → Prop} {h : Heap} {vs : List Value} {ds : List D} (r : RepL T F h vs ds) (lo hi st : Option Int) : RepL T F h (pick vs lo hi st) (Mine.pick ds lo hi st) := by
  unfold Mine.pick
  rw [r.length]
  exact r.pickAt _
theorem zdy {α : Type} (l : List α) (lo hi : Option Int) : pick l lo hi none = cut l (lo.elim 0 (clipAt l.length)) (hi.elim l.length (clipAt l.length)) := by
  unfold pick cut
  rw [sliceBounds_plain]
  simp only [sliceRange_one]
  have := pick_run l.toArray (lo.elim 0 (clipAt l.length)) (hi.elim l.length (clipAt l.length) - lo.elim 0 (clipAt l.length))
  simp only [List.getElem?_toArray] at this
  exact this
theorem zhS (l : List Nat) (lo hi : Option Int) : ((strSliceIndices lo hi 1 l.length).filterMap (l[·]?)) = pick l lo hi none := rfl
theorem zjm {α : Type} (l : List α) (lo hi : Option Int) : (pick l lo hi none).length ≤ l.length := by
  rw [zdy]; unfold cut
  exact Nat.le_trans (List.length_take_le' _ _) (by rw [List.length_drop]; exact Nat.sub_le _ _)
theorem zhx {F : Addr → Prop} {s : Shared} {A : Around} {E : Value → Shared → Prop} {Q : Value → Shared → Prop} (ok : CxOk cx) (w : Wd cx F s) {a sl : Addr} {vs : List Value} {n : Nat} {l : List D} {vl vu vst : Value} {lo hi st : Option Int}
    (g : s.heap.get? a = some (lobj vs.toArray n)) (z : vs.length ≤ lim) (q : RepL cx.T F s.heap vs l) (hs : s.heap.IsSliceOf sl vl vu vst) (pl : IsPart vl lo) (pu : IsPart vu hi) (ps : IsPart vst st) (h0 : st ≠ some 0)
    (hQ : Post cx F s (.own (pick l lo hi st)) Q) : wpAny (model cx.prog cx.w) A (getItem (.ref a) (.ref sl)) Q E s := by
  refine wpAny_getItem_list_slice (zbn g) hs pl pu ps h0 ?_ (by rw [List.size_toArray]; exact zbm z)
  have hsz : (pick vs lo hi st).length ≤ lim := by
    have := slicePick_size_le vs.toArray lo hi st
    rw [zfN, List.size_toArray, List.size_toArray] at this
    exact Nat.le_trans this z
  rw [zfN]
  refine hQ _ F _ (Step.push ok w _ _) (.pushOwn w hsz (q.pick lo hi st))
theorem zmf (n : Nat) (i : Int) : clipAt n i ≤ n := by unfold clipAt; omega
theorem zmw {a b n : Nat} (h2 : b - a = n) (hb : b ≤ n) (h : 0 < n) : a = 0 := by omega
theorem zll {F : Addr → Prop} {s : Shared} {A : Around} {E : Value → Shared → Prop} {Q : Value → Shared → Prop} (w : Wd cx F s) {sl : Addr} {l : List Nat} {t : Tok} {pl pu : Option (Int × Tok)}
    (p : ∀ c ∈ l, c < 0x110000) (z : l.length ≤ lim) (hs : s.heap.IsSlice sl pl pu none) (hQ : Post cx F s (.val (.str (pick l (pl.map (·.1)) (pu.map (·.1)) none))) Q) :
    wpAny (model cx.prog cx.w) A (getItem (.str ⟨l.toArray⟩ t) (.ref sl)) Q E s := by
  refine wpAny_getItem_str_slice hs (by rfl) ?_
  have hsz := zjm l (pl.map (·.1)) (pu.map (·.1))
  have hp : ∀ c ∈ pick l (pl.map (·.1)) (pu.map (·.1)) none, c < 0x110000 := fun c hc => by
    rw [zdy] at hc; unfold cut at hc
    exact p c (List.mem_of_mem_drop (List.mem_of_mem_take hc))
  have e0 : slicePicked ⟨l.toArray⟩ pl pu none = strSliceIndices (pl.map (·.1)) (pu.map (·.1)) 1 l.length := by
    unfold slicePicked
    show strSliceIndices _ _ 1 (l.toArray.size) = _
    rw [List.size_toArray]
  have e1 : ((slicePicked ⟨l.toArray⟩ pl pu none).filterMap ((PySem.Str.mk l.toArray).cps[·]?)) = pick l (pl.map (·.1)) (pu.map (·.1)) none := by
    rw [e0, ← zhS]
    have e : (fun a : Nat => (PySem.Str.mk l.toArray).cps[a]?) = fun a => l[a]? := by funext a; simp
    rw [e]
  unfold sliceMade
  rw [e1]
  by_cases hc : ((((none : Option (Int × Tok)).map (·.1)).getD 1 == 1 && (slicePicked ⟨l.toArray⟩ pl pu none).length == (PySem.Str.mk l.toArray).length) = true)
  · rw [if_pos hc]
    simp only [Bool.and_eq_true, beq_iff_eq] at hc
    have h2 := hc.2
    rw [e0] at h2
    have e3 : strSliceIndices (pl.map (·.1)) (pu.map (·.1)) 1 l.length = sliceRange (sliceBounds (pl.map (·.1)) (pu.map (·.1)) none l.length).1 (sliceBounds (pl.map (·.1)) (pu.map (·.1)) none l.length).2.1 (sliceBounds (pl.map (·.1)) (pu.map (·.1)) none l.length).2.2 := rfl
    rw [e3, sliceBounds_plain, sliceRange_one, List.length_map, List.length_range] at h2
    have h3 : (PySem.Str.mk l.toArray).length = l.length := by show l.toArray.size = _; rw [List.size_toArray]
    rw [h3] at h2
    have hb : (pu.map (·.1)).elim l.length (clipAt l.length) ≤ l.length := by
      cases (pu.map (·.1)) with
      | none => exact Nat.le_refl _
      | some i => exact zmf _ _
    have : pick l (pl.map (·.1)) (pu.map (·.1)) none = l := by
      rw [zdy]
      unfold cut
      rcases Nat.eq_zero_or_pos l.length with h | h
      · rw [List.length_eq_zero_iff.mp h]; simp
      · have e2 : (pl.map (·.1)).elim 0 (clipAt l.length) = 0 := zmw h2 hb h
        rw [e2] at h2
        rw [e2, List.drop_zero, List.take_of_length_le (Nat.le_of_eq h2.symm)]
    rw [this] at hQ
    exact hQ _ F _ (Step.refl w) (.val (.str t p z))
  · rw [if_neg hc]
    exact ⟨Nat.le_trans (by show (List.toArray _).size ≤ l.length; rw [List.size_toArray]; exact hsz) (zbm z), hQ _ F _ ((Step.refl w).toks _) (.val (.str _ hp (Nat.le_trans hsz z)))⟩
end
end Mine
end MpFx
section MpGx
open PySem PySem.Calls PyProof.Rows PySem.Builtin.Str
namespace Mine
section
variable {cx : XCx} {ε : Sc}
theorem zgz (slice : Expr) (o i : Value) : ∃ ops, subscripted slice false o i = operate ops (getItem o i) := by
  cases slice with
  | Slice l u st p => cases st <;> exact ⟨_, rfl⟩
  | _ => exact ⟨_, rfl⟩
noncomputable def seqD : D → Bool
  | .str _ | .list _ | .tup _ => true
  | _ => false
theorem zhQ {F : Addr → Prop} {s : Shared} {A : Around} {value slice : Expr} {o i : Value} {d : D} {Q : Value → Shared → Prop} {E : Value → Shared → Prop} (w : Wd cx F s) (q : BRep cx F s.heap o d) (hd : seqD d = true)
    (h : wpAny (model cx.prog cx.w) A (getItem o i) Q E s) : wpAny (model cx.prog cx.w) A (subscriptTail value slice o i) Q E s := by
  obtain ⟨ops, hs⟩ := zgz slice o i
  cases d with
  | str l =>
    obtain ⟨t, rfl, _, _⟩ := q.str_inv
    exact tail_any (typeIs_str s _ _) PySem.F.slot_str_getitem.lookup h hs
  | list l =>
    obtain ⟨a, vs, n, rfl, nx, g, z, _⟩ := q.list_inv w
    exact tail_any (T := "list") ⟨_, g, rfl⟩ list_getitem_lookup h hs
  | tup l =>
    obtain ⟨a, vs, n, rfl, f, g, z, _⟩ := q.tup_inv
    exact tail_any (T := "tuple") ⟨_, g, rfl⟩ PySem.F.slot_tuple_getitem.lookup h hs
  | _ => cases hd
theorem zkA {d e : D} {r : R} (h : opIndex [d, e] = some r) : seqD d = true := by
  cases d <;> first | rfl | (cases h; done)
theorem zah {v i : Expr} {pos : Pos} {xv xi : X} (hv : Sound cx ε v xv) (hi : Sound cx ε i xi) : Sound cx ε (.Subscript v i pos) (.op .index (.cons xv (.cons xi .nil))) := by
  refine Sound.ofE ?_ fun _ => rfl
  intro n cf A env F s ρ ad m cm H res he Q E hQ
  obtain ⟨rs, h1, h2⟩ := ev_op he
  obtain ⟨ra, xs, ha, h3, rfl⟩ := zaW h1
  obtain ⟨rb, ys, hb, h4, rfl⟩ := zaW h3
  cases zdf h4
  refine Subscript_ ?_
  refine hv.ev n cf A env F s ρ ad m cm H ra ha _ _ fun a F' s' st qa => ?_
  refine hi.ev n cf A env F' s' ρ ad m cm (H.step st) rb hb _ _ fun b F'' s'' st' qb => ?_
  have qa' := st'.brep st.wd qa.brep
  refine zhQ st'.wd qa' (zkA h2) ?_
  exact zmH n A F'' s'' [a, b] _ res H.ok H.bud st'.wd (.cons qa' (.cons qb.brep .nil)) h2 _ _ (hQ.after (st.trans st'))
inductive SoundO (cx : XCx) (ε : Sc) : Option Expr → X → Prop
  | no : SoundO cx ε none (.const .none)
  | yes {e : Expr} {x : X} : Sound cx ε e x → SoundO cx ε (some e) x
theorem SoundO.run {o : Option Expr} {x : X} (h : SoundO cx ε o x) {n cf A env F s ρ ad m cm} (H : Here cx ε n cf A env F s ρ ad m cm) {r : R} (hr : ev cf x ρ = some [r]) : Ev cx A F s (evalPart o env) r := by
  cases h with
  | no => replace hr := (zaB _).symm.trans hr; cases hr; exact Ev.here H.wd (.val .none)
  | yes h => exact h.ev n cf A env F s ρ ad m cm H r hr
theorem zfL {F : Addr → Prop} {h : Heap} {v : Value} {d : D} {o : Option Int} (q : BRep cx F h v d) (e : partD d = some o) : ∃ p : Option (Int × Tok), v = partValue p ∧ p.map (·.1) = o := (zgJ q e).2
theorem zax {v : Expr} {l u : Option Expr} {p pos : Pos} {xv xl xu : X} (hv : Sound cx ε v xv) (hl : SoundO cx ε l xl) (hu : SoundO cx ε u xu) :
    Sound cx ε (.Subscript v (.Slice l u none p) pos) (.op .slice (.cons xv (.cons xl (.cons xu .nil)))) := by
  refine Sound.ofE ?_ fun _ => rfl
  intro n cf A env F s ρ ad m cm H res he Q E hQ
  obtain ⟨rs, h1, h2⟩ := ev_op he
  obtain ⟨ra, xs, ha, h3, rfl⟩ := zaW h1
  obtain ⟨rb, ys, hb, h4, rfl⟩ := zaW h3
  obtain ⟨rc, zs, hc, h5, rfl⟩ := zaW h4
  cases zdf h5
  refine Subscript_ ?_
  refine hv.ev n cf A env F s ρ ad m cm H ra ha _ _ fun a F' s' st qa => ?_
  refine wpAny_Slice ?_
  refine hl.run (H.step st) hb _ _ fun vl F1 s1 st1 ql => ?_
  refine hu.run ((H.step st).step st1) hc _ _ fun vu F2 s2 st2 qu => ?_
  refine wpAny_pure ?_
  have st3 := (st.trans st1).trans st2
  have st4 := Step.push H.ok st3.wd { cls := .type "slice", data := .fields #[vl, vu, .none] } s2.toks
  have qa' := st4.brep st3.wd ((st1.trans st2).brep st.wd qa.brep)
  have ql' := st4.brep st3.wd (st2.brep st1.wd ql.brep)
  have qu' := st4.brep st3.wd qu.brep
  have hs := Heap.IsSliceOf.new s2.heap vl vu .none
  replace h2 : opSlice [ra.ds, rb.ds, rc.ds] = some res := h2
  cases hx : ra.ds <;> rw [hx] at h2 <;> try (cases h2; done)
  · rename_i x
    rw [hx] at qa'
    replace h2 : (match bound rb.ds 0 x.length, bound rc.ds x.length x.length with | some lo, some hi => some (R.val (.str (cut x lo hi))) | _, _ => none) = some res := h2
    split at h2
    · rename_i lo hi hlo hhi
      cases h2
      obtain ⟨t, rfl, pp, z⟩ := qa'.str_inv
      refine zhQ st4.wd qa' rfl ?_
      obtain ⟨ol, hol, rfl⟩ := zek hlo
      obtain ⟨ou, hou, rfl⟩ := zek hhi
      obtain ⟨pl, rfl, e4⟩ := zfL ql' hol
      obtain ⟨pu, rfl, e5⟩ := zfL qu' hou
      refine zll st4.wd (pl := pl) (pu := pu) pp z ?_ ?_
      · obtain ⟨o, h1, h2, h3⟩ := hs; exact ⟨o, h1, h2, h3⟩
      · rw [e4, e5, zdy]; exact hQ.after (st3.trans st4)
    · cases h2
  · rename_i x
    rw [hx] at qa'
    replace h2 : (match bound rb.ds 0 x.length, bound rc.ds x.length x.length with | some lo, some hi => some (R.own (cut x lo hi)) | _, _ => none) = some res := h2
    split at h2
    · rename_i lo hi hlo hhi
      cases h2
      obtain ⟨al, vs, k, rfl, nx, g, z, q⟩ := qa'.list_inv st4.wd
      refine zhQ st4.wd qa' rfl ?_
      obtain ⟨ol, hol, rfl⟩ := zek hlo
      obtain ⟨ou, hou, rfl⟩ := zek hhi
      refine zhx H.ok st4.wd g z q hs (zgJ ql' hol).1 (zgJ qu' hou).1 .none (by intro e; cases e) ?_
      rw [zdy]; exact hQ.after (st3.trans st4)
    · cases h2
theorem ziy {v st : Expr} {l u : Option Expr} {p pos : Pos} {xv xl xu xs : X} (hv : Sound cx ε v xv) (hl : SoundO cx ε l xl) (hu : SoundO cx ε u xu) (hst : Sound cx ε st xs) :
    Sound cx ε (.Subscript v (.Slice l u (some st) p) pos) (.op .slice3 (.cons xv (.cons xl (.cons xu (.cons xs .nil))))) := by
  refine Sound.ofE ?_ fun _ => rfl
  intro n cf A env F s ρ ad m cm H res he Q E hQ
  obtain ⟨rs, h1, h2⟩ := ev_op he
  obtain ⟨ra, xs', ha, h3, rfl⟩ := zaW h1
  obtain ⟨rb, ys, hb, h4, rfl⟩ := zaW h3
  obtain ⟨rc, zs, hc, h5, rfl⟩ := zaW h4
  obtain ⟨rd, ws, hd, h6, rfl⟩ := zaW h5
  cases zdf h6
  refine Subscript_ ?_
  refine hv.ev n cf A env F s ρ ad m cm H ra ha _ _ fun a F' s' st qa => ?_
  refine wpAny_Slice ?_
  refine hl.run (H.step st) hb _ _ fun vl F1 s1 st1 ql => ?_
  refine hu.run ((H.step st).step st1) hc _ _ fun vu F2 s2 st2 qu => ?_
  have st3 := (st.trans st1).trans st2
  refine hst.ev n cf A env F2 s2 ρ ad m cm (H.step st3) rd hd _ _ fun vs F3 s3 st5 qs => ?_
  have st6 := st3.trans st5
  have st4 := Step.push H.ok st6.wd { cls := .type "slice", data := .fields #[vl, vu, vs] } s3.toks
  have qa' := st4.brep st6.wd (((st1.trans st2).trans st5).brep st.wd qa.brep)
  have ql' := st4.brep st6.wd ((st2.trans st5).brep st1.wd ql.brep)
  have qu' := st4.brep st6.wd (st5.brep st3.wd qu.brep)
  have qs' := st4.brep st6.wd qs.brep
  have hs := Heap.IsSliceOf.new s3.heap vl vu vs
  replace h2 : opSlice3 [ra.ds, rb.ds, rc.ds, rd.ds] = some res := h2
  cases hx : ra.ds <;> rw [hx] at h2 <;> try (cases h2; done)
  cases hy : rd.ds <;> rw [hy] at h2 <;> try (cases h2; done)
  · rename_i x k
    rw [hx] at qa'; rw [hy] at qs'
    replace h2 : (match partD rb.ds, partD rc.ds with | some lo, some hi => if k ≠ 0 ∧ small k then some (R.own (pick x lo hi (some k))) else none | _, _ => none) = some res := h2
    split at h2
    · rename_i lo hi hlo hhi
      split at h2 <;> cases h2
      rename_i hk
      obtain ⟨al, vs', k', rfl, nx, g, z, q⟩ := qa'.list_inv st4.wd
      refine zhQ st4.wd qa' rfl ?_
      obtain ⟨t, rfl⟩ := qs'.int_inv
      exact zhx H.ok st4.wd g z q hs (zgJ ql' hlo).1 (zgJ qu' hhi).1 (.int _ _) (by intro e; cases e; exact hk.1 rfl) (hQ.after (st6.trans st4))
    · cases h2
end
end Mine
end MpGx
section MpHx
open PySem PySem.Calls PyProof.Rows PySem.Builtin.Str
namespace Mine
noncomputable def starred : Expr → Bool
  | .Starred _ _ => true
  | _ => false
theorem zaN {e : Expr} {rest : List Expr} {env : Env} (h : starred e = false) : starEach (e :: rest) env = (false, eval e env) :: starEach rest env := by
  cases e <;> first | rfl | cases h
theorem za8 {pos : Pos} {t : Sem Value} {r : List (Bool × Sem Value)} : backTo pos ((false, t) :: r) = (false, t) :: backTo pos r := by
  simp [backTo]
section
variable {cx : XCx} {ε : Sc}
inductive RepRL (cx : XCx) (F : Addr → Prop) (lo h : Heap) : List Value → List R → Prop
  | nil : RepRL cx F lo h [] []
  | cons {v : Value} {vs : List Value} {r : R} {rs : List R} : RepR cx F lo h v r → RepRL cx F lo h vs rs → RepRL cx F lo h (v :: vs) (r :: rs)
theorem RepRL.brep {F : Addr → Prop} {lo h : Heap} {vs : List Value} {rs : List R} (q : RepRL cx F lo h vs rs) : BRepL cx F h vs (rs.map R.ds) := by
  induction q with
  | nil => exact .nil
  | cons a _ ih => exact .cons a.brep ih
theorem RepRL.low {F F' F'' : Addr → Prop} {s s' : Shared} {h : Heap} {vs : List Value} {rs : List R} (x : Step cx F s F' s') (q : RepRL cx F'' s'.heap h vs rs) : RepRL cx F'' s.heap h vs rs := by
  induction q with
  | nil => exact .nil
  | cons a _ ih => exact .cons (a.low x) ih
theorem RepRL.vals {F : Addr → Prop} {lo h : Heap} {vs : List Value} {l : List D} (q : RepL cx.T F h vs l) : RepRL cx F lo h vs (l.map .val) := by
  induction vs generalizing l with
  | nil => cases q; exact .nil
  | cons v vs ih => cases q with | cons a b => exact .cons (.val a) (ih b)
theorem zke (ok : CxOk cx) {F : Addr → Prop} {s : Shared} (w : Wd cx F s) : ∀ {vs : List Value} {rs : List R} {ds : List D} {F' : Addr → Prop} {s' : Shared} {F₁ : Addr → Prop}, Step cx F s F₁ s' → (∀ a, F' a → F₁ a) → RepRL cx F' s.heap s'.heap vs rs → fzAll rs = some ds →
    ∃ F'', Step cx F s F'' s' ∧ (∀ a, F₁ a → F'' a) ∧ RepL cx.T F'' s'.heap vs ds := by
  intro vs rs ds F' s' F₁ x hF q e
  induction q generalizing ds F₁ with
  | nil => cases e; exact ⟨F₁, x, fun _ h => h, .nil⟩
  | @cons v vs r rs a b ih =>
    unfold fzAll at e
    split at e
    · rename_i d ds' e1 e2
      cases e
      cases a with
      | val a =>
        cases e1
        obtain ⟨F'', y, hs, q⟩ := ih x hF e2
        exact ⟨F'', y, hs, .cons (a.mono (fun c h => hs c (hF c h)) fun _ _ _ e => e) q⟩
      | own l nf nx g z a =>
        cases e1
        obtain ⟨F'', y, hs, q⟩ := ih (x.freeze ok w l g) (fun c h => .inl (hF c h)) e2
        exact ⟨F'', y, fun c h => hs c (.inl h), .cons (.list (hs _ (.inr rfl)) g z (a.mono (fun c h => hs c (.inl (hF c h))) fun _ _ _ e => e)) q⟩
      | bor _ _ _ _ => cases e1
    · cases e
inductive SoundL (cx : XCx) (ε : Sc) : List Expr → X → Bool → Prop
  | nil : SoundL cx ε [] .nil false
  | cons {e : Expr} {x : X} {es : List Expr} {y : X} {st : Bool} : Sound cx ε e x → starred e = false → SoundL cx ε es y st → SoundL cx ε (e :: es) (.cons x y) st
  | star {e : Expr} {x : X} {p : Pos} : Sound cx ε e x → SoundL cx ε [.Starred e p] (.star x) true
theorem zkZ {F : Addr → Prop} {s : Shared} {A : Around} {E : Value → Shared → Prop} {Q : List Value → Shared → Prop} (ok : CxOk cx) (w : Wd cx F s) {v : Value} {r : R} {d : D} {l : List D} {lo : Heap} (q : RepR cx F lo s.heap v r) (e : r.fz = some d)
    (hl : d = .list l ∨ d = .tup l)
    (h : ∀ vs s', RepL cx.T F s'.heap vs l → vs.length ≤ lim → Step cx F s F s' → Q vs s') : PySem.W.StarOf (model cx.prog cx.w) A E v Q s := by
  have key : ∃ (a : Addr) (o : Obj) (T : String) (vs : List Value) (n : Nat), v = .ref a ∧ s.heap.get? a = some o ∧ o.cls = .type T ∧ o.data = .seq vs.toArray n ∧ (T = "list" ∨ T = "tuple") ∧ vs.length ≤ lim ∧ RepL cx.T F s.heap vs l := by
    cases q with
    | val q =>
      cases e
      rcases hl with rfl | rfl
      · cases q with | list f g z q => exact ⟨_, _, "list", _, _, rfl, g, rfl, rfl, .inl rfl, z, q⟩
      · cases q with | tup f g z q => exact ⟨_, _, "tuple", _, _, rfl, g, rfl, rfl, .inr rfl, z, q⟩
    | own l nf nx g z q =>
      cases e
      rcases hl with h | h <;> cases h
      exact ⟨_, _, "list", _, _, rfl, g, rfl, rfl, .inl rfl, z, q⟩
    | bor _ _ _ _ => cases e
  obtain ⟨a, o, T, vs, n, rfl, g, hc, hd, hT, z, q⟩ := key
  have hT' : s.TypeIs (.ref a) T := ⟨o, g, hc⟩
  have c : wpAny (model cx.prog cx.w) A (collect (.ref a)) Q E s := by
    refine wpAny_collect_seq a hT g hc hd (fun h' hk => ?_) (by rw [List.size_toArray]; exact zbm z)
    exact h vs { s with heap := h' } (q.mono (fun _ h => h) fun a o _ e => hk a o e) z (Step.grown ok w s.toks hk)
  unfold PySem.W.StarOf notIterableAtAll
  rcases hT with rfl | rfl
  · exact wpAny_bind (wpAny_specialOf hT' PySem.F.slot_list_iter.lookup (wpAny_pure ⟨rfl, c⟩))
  · exact wpAny_bind (wpAny_specialOf hT' PySem.F.slot_tuple_iter.lookup (wpAny_pure ⟨rfl, c⟩))
theorem ev_star {cf : Nat → List D → Option D} {ρ : List Slot} {a : X} {rs : List R} (h : ev cf (.star a) ρ = some rs) : ∃ x d l, ev cf a ρ = some [x] ∧ x.fz = some d ∧ (d = .list l ∨ d = .tup l) ∧ rs = l.map .val := by
  replace h := (za7 _).symm.trans h
  split at h
  · rename_i x e
    split at h
    · rename_i l e'; cases h; exact ⟨x, _, l, e, e', .inl rfl, rfl⟩
    · rename_i l e'; cases h; exact ⟨x, _, l, e, e', .inr rfl, rfl⟩
    · cases h
  · cases h
theorem zjU {n cf A env F s ρ ad m cm} (H : Here cx ε n cf A env F s ρ ad m cm) {e : Expr} {x : X} (h : Sound cx ε e x) {rs : List R} (hr : ev cf (.star x) ρ = some rs) {Q : List Value → Shared → Prop} {E : Value → Shared → Prop}
    (hQ : ∀ vs F' s', Step cx F s F' s' → RepRL cx F' s.heap s'.heap vs rs → vs.length ≤ lim → Q vs s') : wpAny (model cx.prog cx.w) A (eval e env) (fun v s₁ => PySem.W.StarOf (model cx.prog cx.w) A E v Q s₁) E s := by
  obtain ⟨r, d, l, e1, e2, e3, rfl⟩ := ev_star hr
  refine h.ev n cf A env F s ρ ad m cm H r e1 _ _ fun v F' s' st q => ?_
  obtain ⟨F'', st', hs, rd⟩ := st.fz H.ok H.wd q e2
  have q' : RepR cx F'' s.heap s'.heap v (.val d) := .val rd
  exact zkZ H.ok st'.wd q' rfl e3 fun vs s'' ql z st'' => hQ vs F'' s'' (st'.trans st'') (RepRL.vals ql) z
theorem SoundL.run {es : List Expr} {x : X} {b : Bool} (h : SoundL cx ε es x b) {n cf A env} {pos : Pos} :
    ∀ F s ρ ad m cm, Here cx ε n cf A env F s ρ ad m cm → ∀ rs, ev cf x ρ = some rs → ∀ (Q : List Value → Shared → Prop) (E : Value → Shared → Prop),
      (∀ vs F' s', Step cx F s F' s' → RepRL cx F' s.heap s'.heap vs rs → Q vs s') → wpAny (model cx.prog cx.w) A (spliced (backTo pos (starEach es env))) Q E s := by
  induction h with
  | nil =>
    intro F s ρ ad m cm H rs hr Q E hQ
    cases zdf hr
    exact Calls.spliced_nil (hQ [] F s (Step.refl H.wd) .nil)
  | @cons e x es y st h1 hs h2 ih =>
    intro F s ρ ad m cm H rs hr Q E hQ
    obtain ⟨r, rs', e1, e2, rfl⟩ := zaW hr
    rw [zaN hs, za8]
    refine Calls.spliced_cons ?_
    refine h1.ev n cf A env F s ρ ad m cm H r e1 _ _ fun v F' s' st q => ?_
    refine ih F' s' ρ ad m cm (H.step st) rs' e2 _ _ fun vs F'' s'' st' qs => ?_
    exact hQ _ F'' s'' (st.trans st') (.cons (q.step st' st.wd) (qs.low st))
  | @star e x p h1 =>
    intro F s ρ ad m cm H rs hr Q E hQ
    refine PySem.W.ks_spliced (rest := []) (zjU H h1 hr fun vs F' s' st q z => ?_)
    exact Calls.spliced_nil (by rw [List.append_nil]; exact hQ vs F' s' st q)
theorem zak {es : List Expr} {x : X} {b : Bool} {pos : Pos} (h : SoundL cx ε es x b) : Sound cx ε (.List es pos) (.list x) := by
  refine Sound.ofE ?_ fun _ => rfl
  intro n cf A env F s ρ ad m cm H res he Q E hQ
  replace he := (zaY _).symm.trans he
  split at he
  · rename_i rs e1
    split at he
    · rename_i ds e2
      split at he <;> cases he
      rename_i hz
      show wpAny _ _ (do standAt pos; newList (← spliced (backTo pos (starEach es env)))) Q E s
      refine wpAny_bind (wpAny_standAt (wpAny_bind ?_))
      refine h.run F s ρ ad m cm H rs e1 _ _ fun vs F' s' st q => ?_
      obtain ⟨F'', st', _, q'⟩ := zke H.ok H.wd st (fun _ h => h) q e2
      have z : vs.length ≤ lim := by rw [q'.length]; exact hz
      refine wpAny_newList ?_ (zbm z)
      exact hQ _ F'' _ (st'.trans (Step.push H.ok st'.wd _ _)) ((RepR.pushOwn st'.wd z q').low st')
    · cases he
  · cases he
theorem zjW {F : Addr → Prop} {s : Shared} (ok : CxOk cx) (w : Wd cx F s) {vs : List Value} {l : List D} (k : Nat) (z : vs.length ≤ lim) (q : RepL cx.T F s.heap vs l) :
    ∃ F', Step cx F s F' { s with heap := s.heap.push (tobj vs.toArray 0), toks := k } ∧ Rep cx.T F' (s.heap.push (tobj vs.toArray 0)) (.ref s.heap.objs.size) (.tup l) := by
  have st := Step.push ok w (tobj vs.toArray 0) k
  have g : (s.heap.push (tobj vs.toArray 0)).get? s.heap.objs.size = some (tobj vs.toArray 0) := Heap.get?_push_size _ rfl
  exact ⟨_, st.freeze ok w (zbt _) g, .tup (.inr rfl) g z ((st.repL w q).mono (fun _ h => .inl h) fun _ _ _ e => e)⟩
theorem zay {es : List Expr} {x : X} {b : Bool} {k : Nat} {pos : Pos} (h : SoundL cx ε es x b) : Sound cx ε (.Tuple es k pos) (.tup x) := by
  refine Sound.ofE ?_ fun _ => rfl
  intro n cf A env F s ρ ad m cm H res he Q E hQ
  replace he := (zbr _).symm.trans he
  split at he
  · rename_i rs e1
    split at he
    · rename_i ds e2
      split at he <;> cases he
      rename_i hz
      show wpAny _ _ (do standAt pos; newTuple (← spliced (backTo pos (starEach es env)))) Q E s
      refine wpAny_bind (wpAny_standAt (wpAny_bind ?_))
      refine h.run F s ρ ad m cm H rs e1 _ _ fun vs F' s' st q => ?_
      obtain ⟨F'', st', _, q'⟩ := zke H.ok H.wd st (fun _ h => h) q e2
      have z : vs.length ≤ lim := by rw [q'.length]; exact hz
      refine wpAny_newTuple ?_ (zbm z)
      obtain ⟨F3, st3, r⟩ := zjW H.ok st'.wd s'.toks z q'
      exact hQ _ F3 _ (st'.trans st3) (.val r)
    · cases he
  · cases he
theorem zbP {es : List Expr} {x : X} {b : Bool} {pos : Pos} {env : Env} (h : SoundL cx ε es x b) : (backTo pos (starEach es env)).any (·.1) = b := by
  induction h with
  | nil => rfl
  | cons h1 hs h2 ih => rw [zaN hs, za8, List.any_cons]; simpa using ih
  | star h => rfl
theorem zb2 {es : List Expr} {x : X} {b : Bool} {pos : Pos} (h : SoundL cx ε es x b) {n cf A env F s ρ ad m cm} (H : Here cx ε n cf A env F s ρ ad m cm) {rs : List R} (hr : ev cf x ρ = some rs) {f : Value} {Q : Args → Shared → Prop} {E : Value → Shared → Prop}
    (hQ : ∀ vs F' s', Step cx F s F' s' → RepRL cx F' s.heap s'.heap vs rs → Q ⟨vs, []⟩ s') : wpAny (model cx.prog cx.w) A (evalArgs f true (backTo pos (starEach es env)) []) Q E s := by
  cases h with
  | nil =>
    cases zdf hr
    exact PySem.evalArgs_none (hQ [] F s (Step.refl H.wd) .nil)
  | @cons e x es y b h1 hs h2 =>
    have := (SoundL.cons h1 hs h2).run (pos := pos) F s ρ ad m cm H rs hr
    rw [zaN hs, za8] at this ⊢
    exact Calls.evalArgs_plain (this _ _ hQ)
  | star h1 =>
    exact PySem.W.ks_lone (zjU H h1 hr fun vs F' s' st q _ => hQ vs F' s' st q)
theorem zeF {n cf A env F s ρ ad m cm} (H : Here cx ε n cf A env F s ρ ad m cm) {x : Str} {pos : Pos} {v : Value} (hk : ε.kinds.lookup x = some .globalImplicit) (hv : cx.mg x = some v) (hd : (x == ("__debug__" : Str)) = false)
    {Q : Value → Shared → Prop} {E : Value → Shared → Prop} (h : Q v s) : wpAny (model cx.prog cx.w) A (eval (.Name x pos) env) Q E s :=
  Calls.Name_function_global H.env.kind (by unfold Env.kindOf; rw [H.env.names]; exact hk) (Calls.loadGlobal_global (H.env.glob ▸ H.wd.glob H.ok) hv h) hd
theorem zct {n cf A env F s ρ ad m cm} (H : Here cx ε n cf A env F s ρ ad m cm) {x : Str} {pos : Pos} {v : Value} (hk : ε.kinds.lookup x = some .globalImplicit) (hg : cx.mg x = none) (hn : x ≠ "__name__") (hv : bootBuiltins x = some v) (hd : (x == ("__debug__" : Str)) = false)
    {Q : Value → Shared → Prop} {E : Value → Shared → Prop} (h : Q v s) : wpAny (model cx.prog cx.w) A (eval (.Name x pos) env) Q E s :=
  Calls.Name_function_global H.env.kind (by unfold Env.kindOf; rw [H.env.names]; exact hk) (Calls.loadGlobal_builtin (H.env.glob ▸ H.wd.glob H.ok) hg (H.env.blt ▸ H.wd.blt H.ok) ((H.ok.bmb x hn).trans hv) h) hd
theorem zbo {f : Expr} {args : List Expr} {pos : Pos} {env : Env} (hf : ∀ o n p, f ≠ .Attribute o n p) : eval (.Call f args [] pos) env = (do callWith pos (← eval f env) [] (backTo pos (starEach args env)) []) := by
  cases f <;> first | rfl | exact absurd rfl (hf _ _ _)
theorem zan {f : Str} {i : Nat} {p pos : Pos} {es : List Expr} {x : X} {b : Bool} (hk : ε.kinds.lookup f = some .globalImplicit) (hv : cx.mg f = some (.ref (cx.fa i))) (hd : (f == ("__debug__" : Str)) = false) (h : SoundL cx ε es x b) :
    Sound cx ε (.Call (.Name f p) es [] pos) (.call i x) := by
  refine Sound.ofE ?_ fun _ => rfl
  intro n cf A env F s ρ ad m cm H res he Q E hQ
  replace he := (za0 _).symm.trans he
  split at he
  · rename_i rs e1
    split at he
    · rename_i ds e2
      obtain ⟨d, e3, e4⟩ := Option.map_eq_some_iff.mp he
      cases e4
      rw [zbo (by intro _ _ _ e; cases e)]
      obtain ⟨⟨o, fd, g, hfd, nx⟩, hcall⟩ := H.calls i ds d e3
      refine wpAny_bind (zeF H hk hv hd ?_)
      refine Calls.callWith_function (o := o) (fd := fd) (zb2 h H e1 fun vs F' s' st q => ?_)
      obtain ⟨F'', st', _, q'⟩ := zke H.ok H.wd st (fun _ h => h) q e2
      refine ⟨⟨st'.wd.base _ _ g nx, hfd⟩, ?_⟩
      show wpAny _ _ (call (.ref (cx.fa i)) vs) Q E s'
      refine wpAny_call (hcall A F'' s' vs H.bud.toBud st'.wd q' _ fun v F3 s3 st3 r => ?_)
      exact hQ v F3 s3 (st'.trans st3) (.val r)
    · cases he
  · cases he
inductive Callee : Value → Prop
  | builtin (id : String) : Callee (.builtin id)
  | type (T : String) : Callee (.type T)
theorem zao {f : Str} {c : Value} {o : Op} {p pos : Pos} {es : List Expr} {x : X} (hk : ε.kinds.lookup f = some .globalImplicit) (hg : cx.mg f = none) (hn : f ≠ "__name__") (hv : bootBuiltins f = some c) (hc : Callee c)
    (hd : (f == ("__debug__" : Str)) = false) (h : SoundL cx ε es x false) (ho : OpOK cx o (fun vs => call c vs)) : Sound cx ε (.Call (.Name f p) es [] pos) (.op o x) := by
  refine Sound.ofE ?_ fun _ => rfl
  intro n cf A env F s ρ ad m cm H res he Q E hQ
  obtain ⟨rs, e1, e2⟩ := ev_op he
  rw [zbo (by intro _ _ _ e; cases e)]
  refine wpAny_bind (zct H hk hg hn hv hd ?_)
  cases hc with
  | builtin id =>
    refine Calls.callWith_builtin (zbP h) (zb2 h H e1 fun vs F' s' st q => ?_)
    exact ho n A F' s' vs _ res H.ok H.bud st.wd q.brep e2 _ _ (hQ.after st)
  | type T =>
    refine PyProof.Rows.callWith_type (zbP h) (zb2 h H e1 fun vs F' s' st q => ?_)
    exact ho n A F' s' vs _ res H.ok H.bud st.wd q.brep e2 _ _ (hQ.after st)
noncomputable def plainBase : Expr → Bool
  | .Call (.Name _ _) [] [] _ => false
  | _ => true
theorem zfM {o : Expr} {a : Str} {env : Env} {t : Sem Value} (h : plainBase o = true) : attributeBase o a env t = t := by
  cases o with
  | Call f as ks pos => cases f with
    | Name x p => cases as with
      | nil => cases ks with
        | nil => cases h
        | cons _ _ => rfl
      | cons _ _ => rfl
    | _ => rfl
  | _ => rfl
theorem zeh {o : Expr} {name : Str} {apos pos : Pos} {es : List Expr} {env : Env} {A : Around} {s : Shared} {Q : Value → Shared → Prop} {E : Value → Shared → Prop} (hb : plainBase o = true) (hl : (apos.endLine == pos.line) = true) (hn : es.length < 30)
    (hst : (backTo pos (starEach es env)).any (·.1) = false)
    (h : wpAny (model cx.prog cx.w) A (eval o env) (fun ov s₁ => wpAny (model cx.prog cx.w) A (getMethod ov name (do return (← importBound o env).getD true)) (fun fx s₂ => wpAny (model cx.prog cx.w) A (callWith pos fx.1 fx.2 (backTo pos (starEach es env)) []) Q E s₂) E s₁) E s) :
    wpAny (model cx.prog cx.w) A (eval (.Call (.Attribute o name apos) es [] pos) env) Q E s := by
  have hform : methodCallForm (es.length + ([] : List Keyword).length) (backTo pos (starEach es env)) [] = true := by
    unfold methodCallForm
    simp only [List.length_nil, Nat.add_zero, List.all_nil, Bool.and_true, List.isEmpty_nil, if_true, Bool.and_eq_true, decide_eq_true_eq]
    refine ⟨?_, hn⟩
    rw [List.all_eq_true]
    intro y hy
    have := List.any_eq_false.mp hst y hy
    simpa using this
  have hpos : methodCallPos true o env apos pos = pure pos := by unfold methodCallPos; simp [hl]
  show wpAny _ _ (do
    let ov ← attributeBase o name env (eval o env)
    standAt apos.atName
    methodCall o name apos pos env ov (es.length + ([] : List Keyword).length) (backTo pos (starEach es env)) (backToKw pos (keywordEach [] env))) Q E s
  rw [zfM hb]
  refine wpAny_bind (wpAny_mono h (fun ov s₁ h₁ => wpAny_bind (wpAny_standAt ?_)) fun _ _ e => e)
  show wpAny _ _ (methodCall o name apos pos env ov (es.length + ([] : List Keyword).length) (backTo pos (starEach es env)) []) Q E s₁
  unfold methodCall calleeOf
  rw [hform]
  refine wpAny_bind (wpAny_holding (wpAny_mono h₁ (fun fx s₂ h₂ => ?_) fun _ _ e => e))
  rw [hpos]
  exact wpAny_bind (wpAny_pure h₂)
theorem zbg {o : Expr} {name : Str} {id : String} {apos pos : Pos} {es : List Expr} {xo x : X} {op : Op} (hb : plainBase o = true) (hl : (apos.endLine == pos.line) = true) (hn : es.length < 30)
    (slot : PySem.Slot "str" name id) (ty : typeOf (.builtin id) = pure (.type "method_descriptor"))
    (h0 : Sound cx ε o xo) (h : SoundL cx ε es x false) (hs : ∀ d ds r, opF op (d :: ds) = some r → ∃ l, d = .str l) (ho : OpOK cx op (fun vs => call (.builtin id) vs)) : Sound cx ε (.Call (.Attribute o name apos) es [] pos) (.op op (.cons xo x)) := by
  refine Sound.ofE ?_ fun _ => rfl
  intro n cf A env F s ρ ad m cm H res he Q E hQ
  obtain ⟨rs, e1, e2⟩ := ev_op he
  obtain ⟨r0, rs', e3, e4, rfl⟩ := zaW e1
  refine zeh hb hl hn (zbP h) ?_
  refine h0.ev n cf A env F s ρ ad m cm H r0 e3 _ _ fun v F' s' st q => ?_
  obtain ⟨l, hl'⟩ := hs _ _ _ e2
  have qb := q.brep
  rw [hl'] at qb
  obtain ⟨t, rfl, p, z⟩ := qb.str_inv
  refine GM.of _ (typeIs_str _ _ _) slot ty (fun _ e => nomatch e) ?_
  refine Calls.callWith_builtin (zbP h) (zb2 h (H.step st) e4 fun vs F'' s'' st' qs => ?_)
  exact ho n A F'' s'' (_ :: vs) _ res H.ok H.bud st'.wd (.cons (st'.brep st.wd q.brep) qs.brep) e2 _ _ (hQ.after (st.trans st'))
end
end Mine
end MpHx
section MpIx
open PySem PySem.Calls PyProof.Rows PySem.Builtin.Str
namespace Mine
theorem zfU {α : Type} (n : Nat) (l : List α) : ((List.replicate n l.toArray).foldl (· ++ ·) #[]) = ((List.replicate n l).flatten).toArray := by
  have : ∀ (m : Nat) (acc : List α), ((List.replicate m l.toArray).foldl (· ++ ·) acc.toArray) = (acc ++ (List.replicate m l).flatten).toArray := by
    intro m
    induction m with
    | zero => intro acc; simp
    | succ m ih =>
      intro acc
      simp only [List.replicate_succ, List.foldl_cons, List.flatten_cons]
      rw [show acc.toArray ++ l.toArray = (acc ++ l).toArray by simp, ih]
      simp
  have := this n []
  simpa using this
section
variable {cx : XCx}
theorem zm8 : OpOK cx .mul (op2 (binaryOp .Mult)) := by
  intro n A F s vs ds r ok bud w q he Q E hQ
  replace he : opMul ds = some r := he
  rcases ds with _ | ⟨a0, t0⟩
  · cases he
  cases a0 <;> try (cases he; done)
  all_goals
    rcases t0 with _ | ⟨a1, t1⟩
    · cases he
    cases a1 <;> try (cases he; done)
    rcases t1 with _ | ⟨a2, t2⟩ <;> try (cases he; done)
  · rename_i a b
    replace he : (if (small a || small b) = true then some (R.val (.int (a * b))) else none) = some r := he
    split at he <;> cases he
    rename_i hs
    obtain ⟨x, y, rfl, qa, qb⟩ := q.two
    obtain ⟨t, rfl⟩ := qa.int_inv
    obtain ⟨u, rfl⟩ := qb.int_inv
    refine P.mul_int (hQ _ F _ ((Step.refl w).toks _) (.val (.int _ _))) ?_
    simp only [Bool.or_eq_true] at hs
    rcases hs with hs | hs
    · have := zdJ hs
      exact PySem.IntMulOk.of_left (PySem.intBits_le_64 (by omega) (by omega))
    · have := zdJ hs
      exact PySem.IntMulOk.of_right (PySem.intBits_le_64 (by omega) (by omega))
  · rename_i a b
    replace he : (if (small b && decide (a.length * b.toNat ≤ lim)) = true then some (R.val (.str (rep a b))) else none) = some r := he
    split at he <;> cases he
    rename_i hs
    simp only [Bool.and_eq_true, decide_eq_true_eq] at hs
    have hb := zdJ hs.1
    have hz := hs.2
    obtain ⟨x, y, rfl, qa, qb⟩ := q.two
    obtain ⟨t, rfl, p, z⟩ := qa.str_inv
    obtain ⟨u, rfl⟩ := qb.int_inv
    have hlen : (PySem.Str.mk a.toArray).length = a.length := by show a.toArray.size = _; rw [List.size_toArray]
    refine SB.mul ⟨by simp; omega, ?_, ?_⟩ ?_
    · intro h1 _ h2
      rw [hlen] at h2
      have : (a.length : Int) ≤ 1000000 := by unfold lim at z; omega
      have h3 : (2 ^ 63 - 1) / b ≥ 1000000 := by
        apply Int.le_ediv_of_mul_le (by omega)
        omega
      omega
    · intro h1 _
      rw [hlen]
      unfold tooLong
      simp only [decide_eq_false_iff_not]
      have := zbm hz
      omega
    · intro t' k
      have hlen2 : (rep a b).length = a.length * b.toNat := by
        unfold rep
        simp [Nat.mul_comm]
      have e : Txt.mul ⟨a.toArray⟩ b = ⟨(rep a b).toArray⟩ := by
        unfold Txt.mul rep
        split
        · rename_i h1
          have : b.toNat = 0 := by omega
          rw [this]; rfl
        · split
          · rename_i h1 h2
            simp only [Bool.or_eq_true, beq_iff_eq] at h2
            rcases h2 with h2 | h2
            · subst h2; simp
            · rw [hlen, List.length_eq_zero_iff] at h2; subst h2
              simp
          · show PySem.Str.mk _ = _
            rw [zfU]
      rw [e]
      refine hQ _ F _ ((Step.refl w).toks k) (.val (.str _ (fun c hc => ?_) (by rw [hlen2]; exact hz)))
      unfold rep at hc
      obtain ⟨l, hl, hc⟩ := List.mem_flatten.mp hc
      rw [(List.mem_replicate.mp hl).2] at hc
      exact p c hc
  · rename_i a b
    replace he : (if (small b && decide (a.length * b.toNat ≤ lim)) = true then some (R.own (rep a b)) else none) = some r := he
    split at he <;> cases he
    rename_i hs
    simp only [Bool.and_eq_true, decide_eq_true_eq] at hs
    have hb := zdJ hs.1
    have hz := hs.2
    obtain ⟨x, y, rfl, qa, qb⟩ := q.two
    obtain ⟨l, vs, k, rfl, nx, g, z, ql⟩ := qa.list_inv w
    obtain ⟨u, rfl⟩ := qb.int_inv
    have hsz : vs.toArray.size * b.toNat ≤ 2 ^ 24 := by
      rw [List.size_toArray, ql.length]; unfold lim at hz; omega
    have hlen2 : (rep vs b).length ≤ lim := by
      unfold rep
      simp only [List.length_flatten, List.map_replicate, List.sum_replicate_nat]
      rw [ql.length, Nat.mul_comm]; exact hz
    have e : (List.foldl (fun x1 x2 => x1 ++ x2) #[] (List.replicate (if vs.toArray.isEmpty = true then 0 else b.toNat) vs.toArray)) = (rep vs b).toArray := by
      unfold rep
      split
      · rename_i h1
        have : vs = [] := by simpa using h1
        subst this
        simp
      · rw [zfU]
    refine wpAny_binaryOp_repeat_ref (T := "list") (U := "int") (by decide) ⟨_, g, rfl⟩ (fun s' => typeIs_int s' b u) noFill_list_mul PySem.F.fills_int_mul PySem.F.slot_int_rmul repeat_list PySem.F.slot_int_index.lookup
      (call_meets PySem.F.slot_int_rmul (typeIs_int s b u) PySem.F.entry_int_rmul (PySem.F.args_int_rmul_2 _ _) (int___rmul___int_list b u l vs.toArray k)
        ⟨g, rfl, ⟨_, g, rfl⟩, call_meets PySem.F.slot_list_mul ⟨_, g, rfl⟩ PySem.F.entry_list_mul (PySem.F.args_list_mul_2 _ _)
          (AutoListH.list___mul___list_int_3 l vs.toArray k b u (by simp [Builtin.List.listFitsIndex]; omega) (by omega) (by simp [Builtin.List.listTooLong, sizeLine]; omega))
          ⟨g, ?_⟩⟩)
    rw [e]
    exact hQ _ F _ (Step.push ok w _ _) (.pushOwn w hlen2 (ql.rep _))
inductive IsInv : D → D → Bool → Prop
  | toks (i j : Nat) : IsInv (.tok i) (.tok j) (decide (i = j))
  | tys (m n : String) : IsInv (.ty m) (.ty n) (decide (m = n))
  | none : IsInv .none .none true
  | strTok (l : List Nat) (k : Nat) : IsInv (.str l) (.tok k) false
  | tokStr (l : List Nat) (k : Nat) : IsInv (.tok k) (.str l) false
  | noneTok (k : Nat) : IsInv .none (.tok k) false
  | some {d : D} : d ≠ .none → (∀ n, d ≠ .ty n) → IsInv d .none false
theorem isD_inv {a b : D} {c : Bool} (h : isD a b = some c) : IsInv a b c := by
  cases b <;> try (cases a <;> cases h; done)
  · cases a <;> cases h
    · exact .none
    all_goals exact .some (fun e => nomatch e) fun _ e => nomatch e
  · cases a <;> cases h
    exact .tokStr _ _
  · cases a <;> cases h
    · exact .noneTok _
    · exact .strTok _ _
    · exact .toks _ _
  · cases a <;> cases h
    exact .tys _ _
theorem zmj {F : Addr → Prop} {h : Heap} {v : Value} {d : D} (q : BRep cx F h v d) (h1 : d ≠ .none) (h2 : ∀ n, d ≠ .ty n) : plainIs v .none = true ∧ (v == .none) = false := by
  cases q with
  | rep q => cases q <;> first | exact absurd rfl h1 | exact absurd rfl (h2 _) | exact ⟨rfl, rfl⟩
  | own => exact ⟨rfl, rfl⟩
theorem zgw {F : Addr → Prop} {h : Heap} {v : Value} {k : Nat} (q : BRep cx F h v (.tok k)) : v = .ref (cx.T k) ∧ ∃ n t, h.get? (cx.T k) = some (lobj #[.str ⟨(tokC k).toArray⟩ t] n) := by
  cases q with | rep q => cases q with | tok f g => exact ⟨rfl, _, _, g⟩
theorem zlQ (ok : CxOk cx) {F : Addr → Prop} {s : Shared} {A : Around} {x y : Value} {a b : D} {c : Bool} (w : Wd cx F s) (qa : BRep cx F s.heap x a) (qb : BRep cx F s.heap y b) (hc : isD a b = some c) {Q : Bool → Shared → Prop} {E : Value → Shared → Prop} (h : Q c s) :
    wpAny (model cx.prog cx.w) A (isSame x y) Q E s := by
  cases isD_inv hc with
  | none => rw [qa.none_inv, qb.none_inv]; exact wpAny_isSame_plain rfl h
  | noneTok k => rw [qa.none_inv, (zgw qb).1]; exact wpAny_isSame_plain rfl h
  | strTok l k => obtain ⟨t, rfl, _, _⟩ := qa.str_inv; rw [(zgw qb).1]; exact wpAny_isSame_plain rfl h
  | tokStr l k => obtain ⟨t, rfl, _, _⟩ := qb.str_inv; rw [(zgw qa).1]; exact wpAny_isSame_plain rfl h
  | some h1 h2 =>
    obtain ⟨e1, e2⟩ := zmj qa h1 h2
    rw [qb.none_inv]
    exact wpAny_isSame_plain e1 (by rw [e2]; exact h)
  | toks i j =>
    obtain ⟨rfl, _, _, g⟩ := zgw qa
    obtain ⟨rfl, _, _, g'⟩ := zgw qb
    by_cases e : i = j
    · subst e
      rw [decide_eq_true rfl] at h
      exact wpAny_isSame_ref_self h
    · rw [decide_eq_false e] at h
      exact wpAny_isSame_ref_other (fun e' => e (ok.tinj _ _ e')) g g' (by show Value.type "list" ≠ Value.type "tuple"; decide) h
  | tys m n =>
    rw [qa.ty_inv, qb.ty_inv]
    refine wpAny_isSame_plain rfl ?_
    have e : (Value.type m == Value.type n) = decide (m = n) := by
      by_cases e : m = n
      · subst e; simp
      · simp [e]
    rw [e]; exact h
theorem op_is : OpOK cx .is_ (op2 (compareOp .Is)) := by
  intro n A F s vs ds r ok bud w q he
  refine zhJ w q he fun x y a b c qa qb hc Q E h => ?_
  show wpAny _ A (do return .bool (← isSame x y)) Q E s
  exact wpAny_bind (zlQ ok w qa qb hc (wpAny_pure (h s.toks)))
theorem zmF : OpOK cx .isnot (op2 (compareOp .IsNot)) := by
  intro n A F s vs ds r ok bud w q he
  refine zhJ w q he fun x y a b c qa qb hc Q E h => ?_
  obtain ⟨c', hc', rfl⟩ := Option.map_eq_some_iff.mp hc
  show wpAny _ A (do return .bool (!(← isSame x y))) Q E s
  exact wpAny_bind (zlQ ok w qa qb hc' (wpAny_pure (h s.toks)))
theorem zc4 : OpOK cx .len (fun vs => call (.builtin "len") vs) := by
  intro n A F s vs ds r ok bud w q he Q E hQ
  replace he : opLen ds = some r := he
  rcases ds with _ | ⟨a0, t0⟩
  · cases he
  cases a0 <;> try (cases he; done)
  all_goals
    rcases t0 with _ | ⟨a1, t1⟩ <;> cases he
  · obtain ⟨x, rfl, qa⟩ := q.one
    obtain ⟨t, rfl, p, z⟩ := qa.str_inv
    rename_i l
    have e : (PySem.Str.mk l.toArray).length = l.length := by show l.toArray.size = _; rw [List.size_toArray]
    refine P.len_str (by rw [e]; have := sz_lt z; omega) ?_
    rw [e]
    exact hQ _ F _ ((Step.refl w).toks _) (.val (.int _ _))
  · obtain ⟨x, rfl, qa⟩ := q.one
    obtain ⟨a, vs, k, rfl, nx, g, z, ql⟩ := qa.list_inv w
    refine PyProof.Rows.len_list (zbn g) (by rw [List.size_toArray]; exact sz_lt z) ?_
    rw [List.size_toArray, ql.length]
    exact hQ _ F _ ((Step.refl w).toks _) (.val (.int _ _))
  · obtain ⟨x, rfl, qa⟩ := q.one
    obtain ⟨a, vs, k, rfl, f, g, z, ql⟩ := qa.tup_inv
    refine PyProof.Rows.len_tuple (zii g) (by rw [List.size_toArray]; exact sz_lt z) ?_
    rw [List.size_toArray, ql.length]
    exact hQ _ F _ ((Step.refl w).toks _) (.val (.int _ _))
theorem abs_ite {i : Int} : (if i < 0 then -i else i) = (i.natAbs : Int) := by
  split
  · rename_i h; exact (Int.ofNat_natAbs_of_nonpos (Int.le_of_lt h)).symm
  · rename_i h; exact (Int.natAbs_of_nonneg (Int.not_lt.mp h)).symm
theorem op_abs : OpOK cx .abs (fun vs => call (.builtin "abs") vs) := by
  intro n A F s vs ds r ok bud w q he Q E hQ
  delta opF at he; dsimp only at he
  unfold opAbs at he
  split at he <;> cases he
  rename_i i
  obtain ⟨x, rfl, qa⟩ := q.one
  obtain ⟨t, rfl⟩ := qa.int_inv
  refine PyProof.Rows.call_abs_int fun u tk => ?_
  have e : (if i < 0 then -i else i) = (i.natAbs : Int) := abs_ite
  rw [e]
  exact hQ _ F _ ((Step.refl w).toks _) (.val (.int _ _))
theorem zkt {F : Addr → Prop} {h : Heap} : ∀ {l : List D} {is : List Int} {vs : List Value}, toInts l = some is → RepL cx.T F h vs l → ∀ (i : Nat) v, vs[i]? = some v → ∃ t, v = .int (is.getD i 0) t := by
  intro l
  induction l with
  | nil => intro is vs e q i v hv; cases q; cases hv
  | cons d r ih =>
    intro is vs e q
    cases d <;> try (cases e; done)
    obtain ⟨is', e', rfl⟩ := Option.map_eq_some_iff.mp (show (toInts r).map _ = some is from e)
    cases q with
    | cons a b =>
      obtain ⟨t, e2⟩ := (BRep.rep (cx := cx) a).int_inv
      intro i v hv
      cases i with
      | zero => exact ⟨t, (Option.some.inj hv).symm.trans e2⟩
      | succ i => exact ih e' b i v hv
theorem zeV : ∀ {l : List D} {is : List Int}, toInts l = some is → is.length = l.length
  | [], is, e => by cases e; rfl
  | d :: r, is, e => by
    cases d <;> try (cases e; done)
    obtain ⟨is', e', rfl⟩ := Option.map_eq_some_iff.mp (show (toInts r).map _ = some is from e)
    simp [zeV e']
theorem op_sum : OpOK cx .sum (fun vs => call (.builtin "sum") vs) := by
  intro n A F s vs ds r ok bud w q he Q E hQ
  delta opF at he; dsimp only at he
  unfold opSum at he
  split at he
  · rename_i l
    obtain ⟨is, e1, e2⟩ := Option.map_eq_some_iff.mp he
    cases e2
    obtain ⟨x, rfl, qa⟩ := q.one
    obtain ⟨a, vs, k, rfl, nx, g, z, ql⟩ := qa.list_inv w
    refine call_sum_walkG (wpAny_pyIter_list (zbn g) ?_)
    have hne : a ≠ s.heap.objs.size := Nat.ne_of_lt (Heap.lt_size g)
    refine ⟨s.heap.objs.size, _, _, _, _, _, fun i => is.getD i 0, rfl, Walks.list (A := A.in1) bud.hd _ a hne vs.toArray, ⟨⟨_, Heap.get?_push_size _ rfl, rfl, rfl⟩, zbn (Heap.get?_push_of_some _ g)⟩, ?_, ?_, ?_⟩
    · intro b hb
      simp only [List.mem_cons, List.not_mem_nil, or_false] at hb
      rw [Heap.size_push]
      rcases hb with rfl | rfl
      · exact Nat.lt_succ_self _
      · exact Nat.lt_succ_of_lt (Heap.lt_size g)
    · intro i v hv
      exact zkt e1 ql i v (by simpa using hv)
    · intro h' tk t' hk
      have e : preSum (fun i => is.getD i 0) vs.toArray.size = is.sum := by
        rw [preSum_getD, List.size_toArray, ql.length, ← zeV e1, List.take_length]
      rw [e]
      refine hQ _ F _ (Step.grown ok w _ fun b o hb => ?_) (.val (.int _ _))
      refine hk b o ?_ (Heap.get?_push_of_some _ hb)
      simp only [List.mem_cons, List.not_mem_nil, or_false]
      rintro rfl
      rw [zbt] at hb; cases hb
  · cases he
end
end Mine
end MpIx
section MpJx
open PySem PySem.Calls PyProof.Rows PySem.Builtin.Str
namespace Mine
theorem zbL (l : List Nat) : (PySem.Str.mk l.toArray).length = l.length := by show l.toArray.size = _; rw [List.size_toArray]
theorem zhu (x : PySem.Str) (lo hi : Nat) : (∀ c ∈ (strSub x lo hi).cps.toList, c ∈ x.cps.toList) ∧ (strSub x lo hi).cps.size ≤ x.cps.size := by
  unfold strSub
  constructor
  · intro c hc
    simp only [Array.mem_toList_iff] at hc ⊢
    obtain ⟨i, hi, e⟩ := Array.mem_iff_getElem.mp hc
    rw [Array.getElem_extract] at e
    exact Array.mem_iff_getElem.mpr ⟨_, _, e⟩
  · simp only [Array.size_extract]; exact Nat.le_trans (Nat.sub_le _ _) (Nat.min_le_right _ _)
section
variable {cx : XCx}
theorem zi8 {F : Addr → Prop} {h : Heap} {l : List Nat} (p : ∀ c ∈ l, c < 0x110000) (z : l.length ≤ lim) {y : PySem.Str} (t : Tok) (h1 : ∀ c ∈ y.cps.toList, c ∈ l) (h2 : y.cps.size ≤ l.length) : Rep cx.T F h (.str y t) (.str y.cps.toList) :=
  Rep.str (l := y.cps.toList) t (fun c hc => p c (h1 c hc)) (by rw [Array.length_toList]; exact Nat.le_trans h2 z)
theorem zgB {f : PySem.Str → PySem.Str → R} {vs : List Value} {ds : List D} {F : Addr → Prop} {s : Shared} {A : Around} {r : R} {id : String} (w : Wd cx F s) (q : BRepL cx F s.heap vs ds) (he : opStr2 f ds = some r)
    (h : ∀ (a b : List Nat) (t u : Tok), (∀ c ∈ a, c < 0x110000) → a.length ≤ lim → ∀ (Q : Value → Shared → Prop) (E : Value → Shared → Prop), (∀ v k, RepR cx F s.heap s.heap v (f ⟨a.toArray⟩ ⟨b.toArray⟩) → Q v { s with toks := k }) →
      wpAny (model cx.prog cx.w) A (call (.builtin id) [.str ⟨a.toArray⟩ t, .str ⟨b.toArray⟩ u]) Q E s) : Ev cx A F s (call (.builtin id) vs) r := by
  intro Q E hQ
  unfold opStr2 at he
  split at he <;> cases he
  obtain ⟨x, y, rfl, qa, qb⟩ := q.two
  obtain ⟨t, rfl, p, z⟩ := qa.str_inv
  obtain ⟨u, rfl, _, _⟩ := qb.str_inv
  exact h _ _ t u p z Q E fun v k rv => hQ v F _ ((Step.refl w).toks k) rv
theorem zmD : OpOK cx .rfind (fun vs => call (.builtin "str.rfind") vs) := by
  intro n A F s vs ds r ok bud w q he
  delta opF at he; dsimp only at he
  exact zgB w q he fun a b t u p z Q E h => SC.rfind (h _ _ (.val (.int _ _)))
theorem zhZ : OpOK cx .startswith (fun vs => call (.builtin "str.startswith") vs) := by
  intro n A F s vs ds r ok bud w q he
  delta opF at he; dsimp only at he
  exact zgB w q he fun a b t u p z Q E h => SC.startswith (h _ s.toks (.val (.bool _)))
theorem zjp : OpOK cx .endswith (fun vs => call (.builtin "str.endswith") vs) := by
  intro n A F s vs ds r ok bud w q he
  delta opF at he; dsimp only at he
  exact zgB w q he fun a b t u p z Q E h => SC.endswith (h _ s.toks (.val (.bool _)))
theorem zgA (g : Nat → Bool) (l r : Bool) (x : PySem.Str) : (∀ c ∈ (Txt.stripBy g l r x).cps.toList, c ∈ x.cps.toList) ∧ (Txt.stripBy g l r x).cps.size ≤ x.cps.size := by
  unfold Txt.stripBy
  split
  · exact ⟨fun _ h => h, Nat.le_refl _⟩
  · exact zhu _ _ _
theorem zlx : OpOK cx .rstrip (fun vs => call (.builtin "str.rstrip") vs) := by
  intro n A F s vs ds r ok bud w q he
  delta opF at he; dsimp only at he
  refine zgB w q he fun a b t u p z Q E h => SC.rstripChars (fun t' k => h _ k (.val ?_)) (by rw [zbL]; exact zbm z)
  have := zgA (PySem.Str.mk b.toArray).cps.contains false true ⟨a.toArray⟩
  exact zi8 p z t' this.1 (by have h2 := this.2; rw [show (PySem.Str.mk a.toArray).cps.size = a.length from List.size_toArray ..] at h2; exact h2)
theorem zly : OpOK cx .lstrip (fun vs => call (.builtin "str.lstrip") vs) := by
  intro n A F s vs ds r ok bud w q he
  delta opF at he; dsimp only at he
  refine zgB w q he fun a b t u p z Q E h => SC.lstripChars (fun t' k => h _ k (.val ?_)) (by rw [zbL]; exact zbm z)
  have := zgA (PySem.Str.mk b.toArray).cps.contains true false ⟨a.toArray⟩
  exact zi8 p z t' this.1 (by have h2 := this.2; rw [show (PySem.Str.mk a.toArray).cps.size = a.length from List.size_toArray ..] at h2; exact h2)
theorem zmI : OpOK cx .find4 (fun vs => call (.builtin "str.find") vs) := by
  intro n A F s vs ds r ok bud w q he Q E hQ
  replace he : opFind4 ds = some r := he
  rcases ds with _ | ⟨a0, t0⟩
  · cases he
  cases a0 <;> try (cases he; done)
  all_goals
    rcases t0 with _ | ⟨a1, t1⟩
    · cases he
    cases a1 <;> try (cases he; done)
    rcases t1 with _ | ⟨a2, t2⟩
    · cases he
    cases a2 <;> try (cases he; done)
    rcases t2 with _ | ⟨a3, t3⟩
    · cases he
    cases a3 <;> try (cases he; done)
    rcases t3 with _ | ⟨a4, t4⟩ <;> try (cases he; done)
  · rename_i a b i j
    replace he : (if small i ∧ small j then some (R.val (.int (match Builtin.Str.occurrences ⟨a.toArray⟩ ⟨b.toArray⟩ (fromIndex a.length i) (min (fromIndex a.length j) a.length) 1 with | k :: _ => (k : Int) | [] => -1))) else none) = some r := he
    split at he <;> cases he
    cases q with | cons q1 q => cases q with | cons q2 q => cases q with | cons q3 q => cases q with | cons q4 q =>
    cases q
    obtain ⟨t, rfl, _, _⟩ := q1.str_inv
    obtain ⟨u, rfl, _, _⟩ := q2.str_inv
    obtain ⟨v, rfl⟩ := q3.int_inv
    obtain ⟨v', rfl⟩ := q4.int_inv
    refine call_gives PySem.F.slot_str_find (typeIs_str _ _ _) PySem.F.entry_str_find (PySem.F.args_str_find_4 _ _ _ _) (m := .int (match occurrences ⟨a.toArray⟩ ⟨b.toArray⟩ (fromIndex a.length i) (min (fromIndex a.length j) a.length) 1 with | k :: _ => (k : Int) | [] => -1)) ?_ ?_
    · show Gives (match occurrences ⟨a.toArray⟩ ⟨b.toArray⟩ (fromIndex (PySem.Str.mk a.toArray).length i) (min (fromIndex (PySem.Str.mk a.toArray).length j) (PySem.Str.mk a.toArray).length) 1 with | k :: _ => retInt k | [] => (do rule "str.find.not-found"; retInt (-1))) _
      rw [zbL]
      cases occurrences ⟨a.toArray⟩ ⟨b.toArray⟩ (fromIndex a.length i) (min (fromIndex a.length j) a.length) 1 with
      | nil => exact .rule (.of_eq rfl)
      | cons k _ => exact .of_eq rfl
    · exact hQ _ F _ ((Step.refl w).toks _) (.val (.int _ _))
theorem zkE : OpOK cx .replace (fun vs => call (.builtin "str.replace") vs) := by
  intro n A F s vs ds r ok bud w q he Q E hQ
  replace he : opReplace ds = some r := he
  rcases ds with _ | ⟨a0, t0⟩
  · cases he
  cases a0 <;> try (cases he; done)
  all_goals
    rcases t0 with _ | ⟨a1, t1⟩
    · cases he
    cases a1 <;> try (cases he; done)
    rcases t1 with _ | ⟨a2, t2⟩
    · cases he
    cases a2 <;> try (cases he; done)
    rcases t2 with _ | ⟨a3, t3⟩ <;> try (cases he; done)
  · rename_i a b c
    replace he : (if (Builtin.Str.occurrences ⟨a.toArray⟩ ⟨b.toArray⟩ 0 a.length (a.length + 1)).isEmpty = true then some (R.val (.str a)) else none) = some r := he
    split at he <;> cases he
    rename_i hocc
    cases q with | cons q1 q => cases q with | cons q2 q => cases q with | cons q3 q =>
    cases q
    obtain ⟨t, rfl, p, z⟩ := q1.str_inv
    obtain ⟨u, rfl, _, _⟩ := q2.str_inv
    obtain ⟨v, rfl, _, _⟩ := q3.str_inv
    have e : ((occurrences ⟨a.toArray⟩ ⟨b.toArray⟩ 0 (PySem.Str.mk a.toArray).length ((PySem.Str.mk a.toArray).length + 1)).isEmpty || ((PySem.Str.mk b.toArray).length == 0 && (PySem.Str.mk c.toArray).length == 0)) = true := by
      rw [zbL, hocc]; rfl
    obtain ⟨mc, n1, n2⟩ := ok.nb
    refine call_givesAt PySem.F.slot_str_replace (typeIs_str _ _ _) PySem.F.entry_str_replace (PySem.F.args_str_replace_3 _ _ _) (gives_str_replace2 _ _ _ t u v fun h => by rw [e] at h; cases h) ⟨mc, n1.at' fun o g => w.base _ o g ok.limx, n2⟩ ?_
    rw [if_pos e]
    exact hQ _ F _ (Step.refl w) (.val (.str t p z))
end
end Mine
end MpJx
section MpKx
open PySem PySem.Calls PyProof.Rows PySem.Builtin.Str
namespace Mine
section
variable {cx : XCx}
theorem zlg {F : Addr → Prop} {h : Heap} : ∀ {l : List D} {ls : List (List Nat)} {vs : List Value}, toStrs l = some ls → RepL cx.T F h vs l →
    ∃ ps : List (PySem.Str × Tok), vs = strValues ps ∧ ps.map (·.1) = ls.map (fun x => PySem.Str.mk x.toArray) ∧ (∀ x ∈ ls, (∀ c ∈ x, c < 0x110000) ∧ x.length ≤ lim)
  | [], ls, _, e, .nil => by cases e; exact ⟨[], rfl, rfl, fun _ h => nomatch h⟩
  | d :: r, ls, _, e, .cons a b => by
    cases d <;> simp only [toStrs] at e <;> try cases e
    obtain ⟨ls', e', rfl⟩ := Option.map_eq_some_iff.mp e
    obtain ⟨ps, rfl, h2, h3⟩ := zlg e' b
    cases a with
    | str t p z =>
      refine ⟨(_, t) :: ps, rfl, by simp [h2], fun x hx => ?_⟩
      rcases List.mem_cons.mp hx with rfl | hx
      · exact ⟨p, z⟩
      · exact h3 x hx
theorem zhF (s : List Nat) : ∀ (ls : List (List Nat)) (acc : List Nat), ((ls.map fun x => PySem.Str.mk x.toArray).foldl (fun (acc : Array Nat) p => acc ++ (PySem.Str.mk s.toArray).cps ++ p.cps) acc.toArray) = (acc ++ (ls.map fun x => s ++ x).flatten).toArray
  | [], acc => by simp
  | x :: r, acc => by
    rw [List.map_cons, List.foldl_cons]
    have e : (acc.toArray ++ (PySem.Str.mk s.toArray).cps ++ (PySem.Str.mk x.toArray).cps) = (acc ++ s ++ x).toArray := by simp
    rw [e, zhF s r]
    simp
theorem zei (s a : List Nat) : ∀ r : List (List Nat), joinL s (a :: r) = a ++ (r.map fun x => s ++ x).flatten
  | [] => by simp [joinL]
  | b :: r => by
    rw [joinL, zei s b r]
    · simp
    · intro h; cases h
theorem zfI (s : List Nat) (ls : List (List Nat)) : glued ⟨s.toArray⟩ (ls.map fun x => PySem.Str.mk x.toArray) = ⟨(joinL s ls).toArray⟩ := by
  unfold glued
  cases ls with
  | nil => rfl
  | cons a r =>
    simp only [List.map_cons, List.drop_succ_cons, List.drop_zero, List.headD_cons]
    have := zhF s r a
    simp only [zei]
    exact congrArg PySem.Str.mk this
theorem ziP {s : List Nat} {c : Nat} : ∀ {ls : List (List Nat)}, c ∈ joinL s ls → c ∈ s ∨ ∃ x ∈ ls, c ∈ x
  | [], h => by simp [joinL] at h
  | a :: r, h => by
    rw [zei, List.mem_append] at h
    rcases h with h | h
    · exact .inr ⟨a, List.mem_cons_self, h⟩
    · simp only [List.mem_flatten, List.mem_map] at h
      obtain ⟨l, ⟨x, hx, rfl⟩, hc⟩ := h
      rcases List.mem_append.mp hc with h | h
      · exact .inl h
      · exact .inr ⟨x, List.mem_cons_of_mem _ hx, h⟩
theorem zif (s : PySem.Str) : ∀ (xs : List PySem.Str) (k : Nat), xs.toArray.foldl (fun n x => n + x.length + s.length) k = k + (xs.map fun x => x.length + s.length).sum := by
  intro xs
  induction xs with
  | nil => intro k; simp
  | cons x r ih =>
    intro k
    have := ih (k + x.length + s.length)
    simp only [List.foldl_toArray, List.foldl_cons, List.map_cons, List.sum_cons] at this ⊢
    rw [this, Nat.add_assoc k, Nat.add_assoc k]
theorem zfT (s : List Nat) (a : List Nat) (r : List (List Nat)) : (joinL s (a :: r)).length = a.length + (r.map fun x => s.length + x.length).sum := by
  rw [zei, List.length_append, List.length_flatten, List.map_map]
  congr 2
  apply List.map_congr_left
  intro x _
  simp
theorem zlM {a s r : Nat} (hz : a + r ≤ 1000000) (z : s ≤ 1000000) : ¬ (a + s + r > 16777216) := by omega
theorem op_join : OpOK cx .join (fun vs => call (.builtin "str.join") vs) := by
  intro n A F s vs ds r ok bud w q he Q E hQ
  delta opF at he; dsimp only at he
  unfold opJoin at he
  split at he
  · rename_i a l
    split at he
    · rename_i ls e1
      split at he <;> cases he
      rename_i hz
      obtain ⟨x, y, rfl, qa, qb⟩ := q.two
      obtain ⟨t, rfl, p, z⟩ := qa.str_inv
      obtain ⟨D, vs, k, rfl, nx, g, zl, ql⟩ := qb.list_inv w
      obtain ⟨ps, rfl, h2, h3⟩ := zlg e1 ql
      refine SC.join (l := ps) (texts := ls.map fun x => PySem.Str.mk x.toArray) (zbn g) h2 ?_ fun t' k => ?_
      · unfold JoinOk tooLong
        rw [zif, Nat.zero_add, List.map_map]
        simp only [Bool.not_eq_true', decide_eq_false_iff_not]
        rw [sizeLine_eq]
        unfold lim at hz z
        cases ls with
        | nil => simp
        | cons b r =>
          rw [zfT] at hz
          simp only [List.map_cons, List.sum_cons, Function.comp, zbL]
          have e : (List.map ((fun x => x.length + a.length) ∘ fun x => PySem.Str.mk x.toArray) r).sum = (r.map fun x => a.length + x.length).sum := by
            congr 1
            apply List.map_congr_left
            intro x _
            show (PySem.Str.mk x.toArray).length + a.length = _
            rw [zbL, Nat.add_comm]
          rw [e]
          exact zlM hz z
      · unfold Txt.join
        rw [zfI]
        refine hQ _ F _ ((Step.refl w).toks k) (.val (.str t' (fun c hc => ?_) hz))
        rcases ziP hc with hc | ⟨x, hx, hc⟩
        · exact p c hc
        · exact (h3 x hx).1 c hc
    · cases he
  · cases he
theorem zfP {F : Addr → Prop} {h : Heap} (a : List Nat) (p : ∀ c ∈ a, c < 0x110000) (z : a.length ≤ lim) : ∀ {l : List (PySem.Str × Tok)} {xs : List PySem.Str}, l.map (·.1) = xs → (∀ x ∈ xs, (∀ c ∈ x.cps.toList, c ∈ a) ∧ x.cps.size ≤ a.length) →
    RepL cx.T F h (strValues l) (xs.map fun x => .str x.cps.toList)
  | [], _, rfl, _ => .nil
  | (x, t) :: l, _, rfl, hx => by
    have h1 := hx x List.mem_cons_self
    refine .cons (zi8 p z t h1.1 h1.2) (zfP a p z rfl fun y hy => hx y (List.mem_cons_of_mem _ hy))
theorem zlv (x y : PySem.Str) : (∀ z ∈ Txt.split x y, (∀ c ∈ z.cps.toList, c ∈ x.cps.toList) ∧ z.cps.size ≤ x.cps.size) := by
  intro z hz
  unfold Txt.split at hz
  have self : ∀ z ∈ [x], (∀ c ∈ z.cps.toList, c ∈ x.cps.toList) ∧ z.cps.size ≤ x.cps.size := fun z hz => by
    rw [List.mem_singleton.mp hz]; exact ⟨fun _ h => h, Nat.le_refl _⟩
  split at hz
  · exact self z hz
  · split at hz
    · exact self z hz
    · unfold partsBetween at hz
      obtain ⟨⟨i, j⟩, _, rfl⟩ := List.mem_map.mp hz
      exact zhu _ _ _
theorem zfJ (x y : PySem.Str) : (Txt.split x y).length ≤ x.length + 2 := by
  unfold Txt.split
  split
  · simp
  · split
    · simp
    · rw [length_partsBetween]
      have := StrLaws.occ_length_le x y 0 x.length (x.length + 1)
      omega
theorem zmC : OpOK cx .split (fun vs => call (.builtin "str.split") vs) := by
  intro n A F s vs ds r ok bud w q he Q E hQ
  delta opF at he; dsimp only at he
  unfold opSplit at he
  split at he
  · rename_i a b
    split at he <;> cases he
    rename_i hz
    obtain ⟨x, y, rfl, qa, qb⟩ := q.two
    obtain ⟨t, rfl, p, z⟩ := qa.str_inv
    obtain ⟨u, rfl, _, _⟩ := qb.str_inv
    have hfin : ∀ (l : List (PySem.Str × Tok)) (k : Nat), l.map (·.1) = Txt.split ⟨a.toArray⟩ ⟨b.toArray⟩ → Q (.ref s.heap.objs.size) { s with heap := s.heap.push (lobj (strValues l).toArray 0), toks := k } := by
      intro l k hl
      have hx : ∀ x ∈ Txt.split ⟨a.toArray⟩ ⟨b.toArray⟩, (∀ c ∈ x.cps.toList, c ∈ a) ∧ x.cps.size ≤ a.length := fun x hx => by
        have h2 := zlv _ _ x hx
        rw [show (PySem.Str.mk a.toArray).cps.size = a.length from List.size_toArray ..] at h2
        exact h2
      have hr := zfP (cx := cx) (F := F) (h := s.heap) a p z hl hx
      have hlen : (strValues l).length ≤ lim := by
        rw [hr.length, List.length_map]
        have := zfJ ⟨a.toArray⟩ ⟨b.toArray⟩
        rw [zbL] at this
        omega
      exact hQ _ F _ (Step.push ok w _ _) (.pushOwn w hlen hr)
    have hy : ((PySem.Str.mk b.toArray).length == 0) = false := by rw [zbL, hz.1]; rfl
    have hsz : (PySem.Str.mk a.toArray).length ≤ sizeLine := by rw [zbL]; exact zbm z
    cases h1 : (decide ((PySem.Str.mk a.toArray).length < (PySem.Str.mk b.toArray).length) || decide (strKind ⟨a.toArray⟩ < strKind ⟨b.toArray⟩))
    · cases hf : (occurrences ⟨a.toArray⟩ ⟨b.toArray⟩ 0 (PySem.Str.mk a.toArray).length ((PySem.Str.mk a.toArray).length + 1)).isEmpty
      · have hs : Txt.split ⟨a.toArray⟩ ⟨b.toArray⟩ = partsBetween ⟨a.toArray⟩ (occurrences ⟨a.toArray⟩ ⟨b.toArray⟩ 0 (PySem.Str.mk a.toArray).length ((PySem.Str.mk a.toArray).length + 1)) (PySem.Str.mk b.toArray).length := by
          unfold Txt.split; rw [h1, hf]; rfl
        have hsz2 : (partsBetween ⟨a.toArray⟩ (occurrences ⟨a.toArray⟩ ⟨b.toArray⟩ 0 (PySem.Str.mk a.toArray).length ((PySem.Str.mk a.toArray).length + 1)) (PySem.Str.mk b.toArray).length).length ≤ sizeLine := by
          rw [← hs]
          have := zfJ ⟨a.toArray⟩ ⟨b.toArray⟩
          rw [zbL] at this
          exact zbm (by omega)
        refine call_meets PySem.F.slot_str_split (typeIs_str _ _ _) PySem.F.entry_str_split (PySem.F.args_str_split_2 _ _) (meets_str_split_sep _ _ t u h1 hy hf hsz hsz2) ?_
        show wants Q E _ { s with toks := _, heap := s.heap.push { cls := .type "list", data := .seq (strsFrom s.toks (partsBetween _ _ _)).toArray } }
        rw [strsFrom_eq]
        exact hfin (numbered s.toks _) _ ((numbered_texts _ _).trans hs.symm)
      · have hs : Txt.split ⟨a.toArray⟩ ⟨b.toArray⟩ = [⟨a.toArray⟩] := by unfold Txt.split; rw [h1, hf]; rfl
        exact call_meets PySem.F.slot_str_split (typeIs_str _ _ _) PySem.F.entry_str_split (PySem.F.args_str_split_2 _ _) (meets_str_split_not_found _ _ t u h1 hy hf) (hfin [(_, t)] s.toks hs.symm)
    · have hs : Txt.split ⟨a.toArray⟩ ⟨b.toArray⟩ = [⟨a.toArray⟩] := by unfold Txt.split; rw [h1]; rfl
      exact call_meets PySem.F.slot_str_split (typeIs_str _ _ _) PySem.F.entry_str_split (PySem.F.args_str_split_2 _ _) (meets_str_split_cannot_occur _ _ t u h1) (hfin [(_, t)] s.toks hs.symm)
  · cases he
theorem op_tyOf : OpOK cx .tyOf (fun vs => call (.type "type") vs) := by
  intro n A F s vs ds r ok bud w q he Q E hQ
  delta opF at he; dsimp only at he
  rcases ds with _ | ⟨d, _ | ⟨c, t⟩⟩
  · cases he
  · replace he : (tyD d).map (fun n => R.val (.ty n)) = some r := he
    obtain ⟨x, rfl, qa⟩ := q.one
    obtain ⟨T, e1, e2⟩ := Option.map_eq_some_iff.mp he
    cases e2
    have key : s.TypeIs x T ∧ (Value.type T == Value.type "builtin_function_or_method") = false := by
      cases d <;> cases e1
      · rw [qa.bool_inv]; exact ⟨rfl, by decide⟩
      · obtain ⟨t, rfl⟩ := qa.int_inv; exact ⟨typeIs_int s _ _, by decide⟩
      · obtain ⟨t, rfl, _, _⟩ := qa.str_inv; exact ⟨typeIs_str s _ _, by decide⟩
      · obtain ⟨a, vs, n, rfl, nx, g, _, _⟩ := qa.list_inv w; exact ⟨⟨_, g, rfl⟩, by decide⟩
      · obtain ⟨a, vs, n, rfl, f, g, _, _⟩ := qa.tup_inv; exact ⟨⟨_, g, rfl⟩, by decide⟩
      · cases qa with | rep qa => cases qa with | tok f g => exact ⟨⟨_, g, rfl⟩, by decide⟩
    exact call_type_of key.1 key.2 (hQ _ F _ (Step.refl w) (.val (.ty _)))
  · cases he
theorem RepL.two_ty {T : Nat → Addr} {F : Addr → Prop} {h : Heap} {vs : List Value} {a b : String} (q : RepL T F h vs [.ty a, .ty b]) : vs = [.type a, .type b] := by
  cases q with
  | cons qa q => cases q with
    | cons qb q =>
      cases q
      cases qa
      cases qb
      rfl
inductive IsInstI : List D → R → Prop
  | s1 (l : List Nat) : IsInstI [.str l, .ty "str"] (.val (.bool true))
  | s2 (l : List Nat) : IsInstI [.str l, .ty "bytes"] (.val (.bool false))
  | s3 (l : List Nat) : IsInstI [.str l, .tup [.ty "list", .ty "tuple"]] (.val (.bool false))
  | s4 (l : List D) : IsInstI [.list l, .tup [.ty "list", .ty "tuple"]] (.val (.bool true))
theorem zkc {α : Type} {p : Prop} [Decidable p] {x y : α} (h : (if p then some x else none) = some y) : p ∧ x = y := by
  by_cases q : p
  · rw [if_pos q] at h; exact ⟨q, Option.some.inj h⟩
  · rw [if_neg q] at h; cases h
theorem zkS {ds : List D} {r : R} (he : opIsInst ds = some r) : IsInstI ds r := by
  rcases ds with _ | ⟨a, t⟩
  · cases he
  cases a <;> try (cases he; done)
  · rcases t with _ | ⟨b, t⟩
    · cases he
    cases b <;> try (cases he; done)
    · rename_i l m
      rcases m with _ | ⟨x, m⟩
      · cases he
      cases x <;> try (cases he; done)
      rcases m with _ | ⟨y, m⟩
      · cases he
      cases y <;> try (cases he; done)
      rcases m with _ | ⟨z, m⟩ <;> try (cases he; done)
      rcases t with _ | ⟨z, t⟩ <;> try (cases he; done)
      obtain ⟨⟨rfl, rfl⟩, rfl⟩ := zkc he
      exact .s3 _
    · rename_i l n
      rcases t with _ | ⟨z, t⟩ <;> try (cases he; done)
      have e : (if n = "str" then some (R.val (.bool true)) else if n = "bytes" then some (.val (.bool false)) else none) = some r := he
      by_cases q : n = "str"
      · rw [if_pos q] at e; cases e; subst q; exact .s1 _
      · rw [if_neg q] at e
        obtain ⟨rfl, rfl⟩ := zkc e
        exact .s2 _
  · rcases t with _ | ⟨b, t⟩
    · cases he
    cases b <;> try (cases he; done)
    rename_i l m
    rcases m with _ | ⟨x, m⟩
    · cases he
    cases x <;> try (cases he; done)
    rcases m with _ | ⟨y, m⟩
    · cases he
    cases y <;> try (cases he; done)
    rcases m with _ | ⟨z, m⟩ <;> try (cases he; done)
    rcases t with _ | ⟨z, t⟩ <;> try (cases he; done)
    obtain ⟨⟨rfl, rfl⟩, rfl⟩ := zkc he
    exact .s4 _
theorem zc5 : OpOK cx .isInst (fun vs => call (.builtin "isinstance") vs) := by
  intro n A F s vs ds r ok bud w q he Q E hQ
  cases zkS (show opIsInst ds = some r from he) with
  | s1 l =>
    obtain ⟨x, y, rfl, qa, qb⟩ := q.two
    obtain ⟨t, rfl, _, _⟩ := qa.str_inv
    rw [qb.ty_inv]
    exact IsiPair.str_str (hQ _ F _ (Step.refl w) (.val (.bool _)))
  | s2 l =>
    obtain ⟨x, y, rfl, qa, qb⟩ := q.two
    obtain ⟨t, rfl, _, _⟩ := qa.str_inv
    rw [qb.ty_inv]
    exact IsiPair.str_bytes (hQ _ F _ ((Step.refl w).toks _) (.val (.bool _)))
  | s3 l =>
    obtain ⟨x, y, rfl, qa, qb⟩ := q.two
    obtain ⟨t, rfl, _, _⟩ := qa.str_inv
    obtain ⟨a, vs, k, rfl, f, g, z, q3⟩ := qb.tup_inv
    have e2 := q3.two_ty
    subst e2
    exact ziZ g fun tk => hQ _ F _ ((Step.refl w).toks _) (.val (.bool _))
  | s4 l =>
    obtain ⟨x, y, rfl, qa, qb⟩ := q.two
    obtain ⟨l, ws, j, rfl, nx, gl, _, _⟩ := qa.list_inv w
    obtain ⟨a, vs, k, rfl, f, g, z, q3⟩ := qb.tup_inv
    have e2 := q3.two_ty
    subst e2
    exact zil gl g fun tk => hQ _ F _ ((Step.refl w).toks _) (.val (.bool _))
theorem zlS {ds : List D} {r : R} (he : opIsSub ds = some r) : ds = [.ty "str", .tup [.ty "str", .ty "bytes"]] ∧ r = .val (.bool true) := by
  rcases ds with _ | ⟨a, t⟩
  · cases he
  cases a <;> try (cases he; done)
  rcases t with _ | ⟨b, t⟩
  · cases he
  cases b <;> try (cases he; done)
  rename_i l m
  rcases m with _ | ⟨x, m⟩
  · cases he
  cases x <;> try (cases he; done)
  rcases m with _ | ⟨y, m⟩
  · cases he
  cases y <;> try (cases he; done)
  rcases m with _ | ⟨z, m⟩ <;> try (cases he; done)
  rcases t with _ | ⟨z, t⟩ <;> try (cases he; done)
  obtain ⟨⟨rfl, rfl, rfl⟩, rfl⟩ := zkc he
  exact ⟨rfl, rfl⟩
theorem zmG : OpOK cx .isSub (fun vs => call (.builtin "issubclass") vs) := by
  intro n A F s vs ds r ok bud w q he Q E hQ
  obtain ⟨rfl, rfl⟩ := zlS (show opIsSub ds = some r from he)
  obtain ⟨x, y, rfl, qa, qb⟩ := q.two
  rw [qa.ty_inv]
  obtain ⟨a, vs, k, rfl, f, g, z, q3⟩ := qb.tup_inv
  have e2 := q3.two_ty
  subst e2
  exact zge g fun tk => hQ _ F _ ((Step.refl w).toks _) (.val (.bool _))
end
end Mine
end MpKx
section MpLx
open PySem PySem.Calls PyProof.Rows PySem.Builtin.Str
namespace Mine
noncomputable def Mut (env : Env) (ρ : List Slot) (ad : Nat → Addr) (a : Addr) : Prop :=
  a = env.locals ∨ (∃ n, env.cells.lookup n = some a) ∨ ∃ i l, slotAt ρ i = .own l ∧ a = ad i
set_option genInjectivity false in
structure ScOK (ε : Sc) : Prop where
  inj : ∀ x y i, ε.vars.lookup x = some i → ε.vars.lookup y = some i → x = y
set_option genInjectivity false in
structure Frm (cx : XCx) (ε : Sc) (env : Env) (F : Addr → Prop) (s : Shared) (ρ : List Slot) (ad : Nat → Addr) (m cm : Str → Option Value) : Prop where
  en : EnvOK cx ε env F s.heap ρ ad m cm
  lf : ¬ F env.locals
  cf : ∀ n c, env.cells.lookup n = some c → ¬ F c ∧ c ≠ env.locals
  cinj : ∀ n n' c, env.cells.lookup n = some c → env.cells.lookup n' = some c → n = n'
  oinj : ∀ i j l l', slotAt ρ i = .own l → slotAt ρ j = .own l' → ad i = ad j → i = j
  own : ∀ i l, slotAt ρ i = .own l → ¬ F (ad i) ∧ ¬ cx.X (ad i) ∧ (∃ vs n, s.heap.get? (ad i) = some (lobj vs n)) ∧ ad i ≠ env.locals ∧ ∀ n, env.cells.lookup n ≠ some (ad i)
set_option genInjectivity false in
structure StepS (cx : XCx) (env : Env) (F : Addr → Prop) (s : Shared) (ρ : List Slot) (ad : Nat → Addr) (F' : Addr → Prop) (s' : Shared) (ρ' : List Slot) (ad' : Nat → Addr) : Prop where
  sub : ∀ a, F a → F' a
  new : ∀ a, F' a → F a ∨ s.heap.get? a = none ∨ Mut env ρ ad a
  keep : ∀ a o, s.heap.get? a = some o → ¬ cx.X a → ¬ Mut env ρ ad a → s'.heap.get? a = some o
  os : s'.os = s.os
  wd : Wd cx F' s'
  mu : ∀ a, Mut env ρ' ad' a → Mut env ρ ad a ∨ s.heap.get? a = none
theorem zbN (ρ : List Slot) (i : Nat) (sl : Slot) (j : Nat) : slotAt (ρ.set i sl) j = if j = i then (if i < ρ.length then sl else .unset) else slotAt ρ j := by
  unfold slotAt
  simp only [List.getD_eq_getElem?_getD, List.getElem?_set]
  by_cases h : i = j
  · subst h
    simp only [if_true]
    split <;> rfl
  · simp only [if_neg h, if_neg (Ne.symm h)]
theorem zgk {ρ : List Slot} {i : Nat} {l : List D} (h : ownAt ρ i = some l) : slotAt ρ i = .own l ∧ i < ρ.length := by
  unfold ownAt at h
  split at h
  · rename_i l' e
    cases h
    refine ⟨by unfold slotAt; simp [List.getD, e], ?_⟩
    rcases Nat.lt_or_ge i ρ.length with q | q
    · exact q
    · rw [List.getElem?_eq_none q] at e; cases e
  · cases h
section
variable {cx : XCx} {ε : Sc} {env : Env} {F F' F'' : Addr → Prop} {s s' s'' : Shared} {ρ ρ' ρ'' : List Slot} {ad ad' ad'' : Nat → Addr} {m cm : Str → Option Value}
theorem Frm.isSome (f : Frm cx ε env F s ρ ad m cm) {a : Addr} (h : Mut env ρ ad a) : ∃ o, s.heap.get? a = some o := by
  rcases h with rfl | ⟨n, hn⟩ | ⟨i, l, hi, rfl⟩
  · obtain ⟨o, _, _, e, _⟩ := f.en.ns; exact ⟨o, e⟩
  · obtain ⟨o, e, _⟩ := f.en.cells n a hn; exact ⟨o, e⟩
  · obtain ⟨_, _, ⟨vs, n, e⟩, _⟩ := f.own i l hi; exact ⟨_, e⟩
theorem Frm.notF (f : Frm cx ε env F s ρ ad m cm) {a : Addr} (h : Mut env ρ ad a) : ¬ F a ∧ ¬ cx.X a := by
  rcases h with rfl | ⟨n, hn⟩ | ⟨i, l, hi, rfl⟩
  · exact ⟨f.lf, f.en.lx⟩
  · exact ⟨(f.cf n a hn).1, f.en.cxx n a hn⟩
  · exact ⟨(f.own i l hi).1, (f.own i l hi).2.1⟩
theorem StepS.refl (w : Wd cx F s) : StepS cx env F s ρ ad F s ρ ad := ⟨fun _ h => h, fun _ h => .inl h, fun _ _ e _ _ => e, rfl, w, fun _ h => .inl h⟩
theorem StepS.trans (x : StepS cx env F s ρ ad F' s' ρ' ad') (y : StepS cx env F' s' ρ' ad' F'' s'' ρ'' ad'') : StepS cx env F s ρ ad F'' s'' ρ'' ad'' := by
  have back : ∀ a, ¬ cx.X a → s'.heap.get? a = none → Mut env ρ ad a ∨ s.heap.get? a = none := fun a nx h => by
    by_cases hm : Mut env ρ ad a
    · exact .inl hm
    · right
      cases e : s.heap.get? a with
      | none => rfl
      | some o => rw [x.keep a o e nx hm] at h; cases h
  refine ⟨fun a h => y.sub a (x.sub a h), fun a h => ?_, fun a o e nx nm => ?_, y.os.trans x.os, y.wd, fun a h => ?_⟩
  · rcases y.new a h with q | q | q
    · exact x.new a q
    · rcases back a (y.wd.nx a h) q with q | q
      · exact .inr (.inr q)
      · exact .inr (.inl q)
    · rcases x.mu a q with q | q
      · exact .inr (.inr q)
      · exact .inr (.inl q)
  · refine y.keep a o (x.keep a o e nx nm) nx fun hm => ?_
    rcases x.mu a hm with q | q
    · exact nm q
    · rw [e] at q; cases q
  · rcases y.mu a h with q | q
    · exact x.mu a q
    · by_cases nx : cx.X a
      · obtain ⟨o, e⟩ := x.wd.xex a nx
        rw [e] at q; cases q
      · exact back a nx q
theorem StepS.ofStep (x : Step cx F s F' s') : StepS cx env F s ρ ad F' s' ρ ad := ⟨x.sub, fun a h => (x.new a h).imp id .inl, fun a o e nx _ => x.keep a o e nx, x.os, x.wd, fun _ h => .inl h⟩
theorem Frm.step (f : Frm cx ε env F s ρ ad m cm) (w : Wd cx F s) (x : Step cx F s F' s') : Frm cx ε env F' s' ρ ad m cm := by
  have nf : ∀ {a}, Mut env ρ ad a → ¬ F' a := fun h => by
    obtain ⟨o, e⟩ := f.isSome h
    exact x.notF (f.notF h).1 e
  refine ⟨f.en.step x w, nf (.inl rfl), fun n c hc => ⟨nf (.inr (.inl ⟨n, hc⟩)), (f.cf n c hc).2⟩, f.cinj, f.oinj, fun i l hi => ?_⟩
  obtain ⟨_, nx, ⟨vs, n, e⟩, h4, h5⟩ := f.own i l hi
  exact ⟨nf (.inr (.inr ⟨i, l, hi, rfl⟩)), nx, ⟨vs, n, x.keep _ _ e nx⟩, h4, h5⟩
end
set_option genInjectivity false in
structure HereS (cx : XCx) (ε : Sc) (n : Nat) (cf : Nat → List D → Option D) (A : Around) (env : Env) (F : Addr → Prop) (s : Shared) (ρ : List Slot) (ad : Nat → Addr) (m cm : Str → Option Value) : Prop where
  ok : CxOk cx
  sc : ScOK ε
  calls : CallOK cx n cf
  bud : BudE n A
  wd : Wd cx F s
  frm : Frm cx ε env F s ρ ad m cm
theorem HereS.here {cx ε n cf A env F s ρ ad m cm} (H : HereS cx ε n cf A env F s ρ ad m cm) : Here cx ε n cf A env F s ρ ad m cm := ⟨H.ok, H.calls, H.bud, H.wd, H.frm.en⟩
theorem HereS.step {cx ε n cf A env F s ρ ad m cm} {F' : Addr → Prop} {s' : Shared} (H : HereS cx ε n cf A env F s ρ ad m cm) (x : Step cx F s F' s') : HereS cx ε n cf A env F' s' ρ ad m cm := ⟨H.ok, H.sc, H.calls, H.bud, x.wd, H.frm.step H.wd x⟩
theorem HereS.stepS {cx ε n cf A env F s ρ ad m cm} {F' : Addr → Prop} {s' : Shared} {ρ' ad' m' cm'} (H : HereS cx ε n cf A env F s ρ ad m cm) (x : StepS cx env F s ρ ad F' s' ρ' ad') (f : Frm cx ε env F' s' ρ' ad' m' cm') : HereS cx ε n cf A env F' s' ρ' ad' m' cm' := ⟨H.ok, H.sc, H.calls, H.bud, x.wd, f⟩
inductive OutRep (cx : XCx) (F : Addr → Prop) (h : Heap) : Flow → Out → Prop
  | next : OutRep cx F h .next .next
  | brk : OutRep cx F h .brk .brk
  | cont : OutRep cx F h .cont .cont
  | ret {v : Value} {d : D} : Rep cx.T F h v d → OutRep cx F h (.ret v) (.ret d)
noncomputable def PostS (cx : XCx) (ε : Sc) (env : Env) (F : Addr → Prop) (s : Shared) (ρ : List Slot) (ad : Nat → Addr) (ρ' : List Slot) (o : Out) (Q : Flow → Shared → Prop) : Prop :=
  ∀ f F' s' ad' m' cm', StepS cx env F s ρ ad F' s' ρ' ad' → Frm cx ε env F' s' ρ' ad' m' cm' → OutRep cx F' s'.heap f o → Q f s'
theorem PostS.after {cx ε env F s ρ ad ρ' o Q} {F₁ : Addr → Prop} {s₁ : Shared} {ρ₁ ad₁} (h : PostS cx ε env F s ρ ad ρ' o Q) (x : StepS cx env F s ρ ad F₁ s₁ ρ₁ ad₁) : PostS cx ε env F₁ s₁ ρ₁ ad₁ ρ' o Q :=
  fun f F' s' ad' m' cm' y fr q => h f F' s' ad' m' cm' (x.trans y) fr q
noncomputable def SoundS (cx : XCx) (ε : Sc) (st : Stmt) (sx : S) : Prop :=
  ∀ n cf A env F s ρ ad m cm, HereS cx ε n cf A env F s ρ ad m cm → ∀ ρ' o, ex cf sx ρ = some (ρ', o) → ∀ Q E, PostS cx ε env F s ρ ad ρ' o Q → wpAny (model cx.prog cx.w) A (exec st env) Q E s
noncomputable def SoundSs (cx : XCx) (ε : Sc) (sts : List Stmt) (sx : S) : Prop :=
  ∀ n cf A env F s ρ ad m cm, HereS cx ε n cf A env F s ρ ad m cm → ∀ ρ' o, ex cf sx ρ = some (ρ', o) → ∀ Q E, PostS cx ε env F s ρ ad ρ' o Q → wpAny (model cx.prog cx.w) A (execs sts env) Q E s
theorem znd {cf : Nat → List D → Option D} {a b : S} {ρ : List Slot} : ex cf (.seq a b) ρ = (match ex cf a ρ with
    | some (ρ', .next) => ex cf b ρ'
    | some (ρ', o) => some (ρ', o)
    | Option.none => Option.none) := by 
  exact zl1 cf
theorem ex_fz {cf : Nat → List D → Option D} {i : Nat} {ρ : List Slot} : ex cf (.fz i) ρ = (match ownAt ρ i with
    | some l => some (ρ.set i (.val (.list l)), .next)
    | Option.none => some (ρ, .next)) := by 
  exact exq_fz cf
section
variable {cx : XCx} {ε : Sc}
theorem zad : SoundSs cx ε [] .skip := by
  intro n cf A env F s ρ ad m cm H ρ' o h Q E hQ
  replace h := (zkg cf).symm.trans h; cases h
  exact wpAny_execs_nil (hQ .next F s ad m cm (StepS.refl H.wd) H.frm .next)
theorem zab {st : Stmt} {sts : List Stmt} {a b : S} (h1 : SoundS cx ε st a) (h2 : SoundSs cx ε sts b) : SoundSs cx ε (st :: sts) (.seq a b) := by
  intro n cf A env F s ρ ad m cm H ρ' o h Q E hQ
  refine wpAny_execs_cons ?_
  replace h := (zl1 cf).symm.trans h
  split at h
  · rename_i ρ₁ e1
    refine h1 n cf A env F s ρ ad m cm H ρ₁ .next e1 _ _ fun f F' s' ad' m' cm' x fr q => ?_
    cases q
    exact h2 n cf A env F' s' ρ₁ ad' m' cm' (H.stepS x fr) ρ' o h _ _ (hQ.after x)
  · rename_i ρ₁ o₁ hne e1
    cases h
    refine h1 n cf A env F s ρ ad m cm H _ _ e1 _ _ fun f F' s' ad' m' cm' x fr q => ?_
    cases q with
    | next => exact (hne rfl).elim
    | brk => exact hQ _ F' s' ad' m' cm' x fr .brk
    | cont => exact hQ _ F' s' ad' m' cm' x fr .cont
    | ret r => exact hQ _ F' s' ad' m' cm' x fr (.ret r)
  · cases h
theorem frozen {n cf A env F s ρ ad m cm} (H : HereS cx ε n cf A env F s ρ ad m cm) {i : Nat} {l : List D} (h : ownAt ρ i = some l) (hv : ∃ x, ε.vars.lookup x = some i) :
    ∃ F', StepS cx env F s ρ ad F' s (ρ.set i (.val (.list l))) ad ∧ Frm cx ε env F' s (ρ.set i (.val (.list l))) ad m cm := by
  obtain ⟨hs, hlt⟩ := zgk h
  obtain ⟨x, hx⟩ := hv
  have f := H.frm
  obtain ⟨nf, nx, ⟨vs0, n0, e0⟩, h4, h5⟩ := f.own i l hs
  have hsr : ∃ ov, SlotRep cx F s.heap ad i ov (.own l) := by
    rcases f.en.vars x i hx with ⟨_, q⟩ | ⟨_, _, q⟩ <;> rw [hs] at q <;> exact ⟨_, q⟩
  obtain ⟨ov, q⟩ := hsr
  cases q with
  | own _ _ g z q =>
  have hset : ∀ j, slotAt (ρ.set i (.val (.list l))) j = if j = i then .val (.list l) else slotAt ρ j := fun j => by rw [zbN, if_pos hlt]
  have hsub : ∀ a, F a → (F a ∨ a = ad i) := fun _ h => .inl h
  have wd' : Wd cx (fun a => F a ∨ a = ad i) s := ⟨H.wd.base, H.ok.xi _ _ _ _ H.wd.xi hsub (fun _ _ _ e => e), H.wd.gens, fun a o h nx => .inl (H.wd.f0 a o h nx), fun a h => h.elim (H.wd.lt a) fun e => ⟨_, e ▸ g⟩, fun a h => h.elim (H.wd.nx a) fun e => e ▸ nx, H.wd.xex⟩
  have slots : ∀ j ov, SlotRep cx F s.heap ad j ov (slotAt ρ j) → SlotRep cx (fun a => F a ∨ a = ad i) s.heap ad j ov (slotAt (ρ.set i (.val (.list l))) j) := by
    intro j ov q'
    rw [hset]
    by_cases hj : j = i
    · subst hj
      rw [if_pos rfl]
      rw [hs] at q'
      cases q' with
      | own _ _ g z q => exact .val (.list (.inr rfl) g z (q.mono hsub fun _ _ _ e => e))
    · rw [if_neg hj]
      generalize hsl : slotAt ρ j = sl at q'
      cases q' with
      | unset => exact .unset
      | val q => exact .val (q.mono hsub fun _ _ _ e => e)
      | own nf' nx' g z q => exact .own (fun h => h.elim nf' fun e => hj (f.oinj j i _ _ hsl hs e)) nx' g z (q.mono hsub fun _ _ _ e => e)
      | app a b c => exact .app (.inl a) b c
  refine ⟨fun a => F a ∨ a = ad i, ⟨hsub, fun a h => h.imp id fun e => .inr (.inr (.inr ⟨i, l, hs, e⟩)), fun _ _ e _ _ => e, rfl, wd', fun a h => ?_⟩, ?_⟩
  · rcases h with h | h | ⟨j, l', hj, rfl⟩
    · exact .inl (.inl h)
    · exact .inl (.inr (.inl h))
    · rw [hset] at hj
      split at hj
      · cases hj
      · exact .inl (.inr (.inr ⟨j, l', hj, rfl⟩))
  · refine ⟨⟨f.en.kind, f.en.names, f.en.glob, f.en.blt, f.en.code, f.en.lx, f.en.cxx, f.en.ns, f.en.cells, fun y j hy => (f.en.vars y j hy).imp (fun ⟨k, q⟩ => ⟨k, slots j _ q⟩) fun ⟨k, c, q⟩ => ⟨k, c, slots j _ q⟩⟩,
      fun h => h.elim f.lf fun e => h4 e.symm, fun n c hc => ⟨fun h => h.elim (f.cf n c hc).1 fun e => h5 n (e ▸ hc), (f.cf n c hc).2⟩, f.cinj, fun j k l1 l2 h1 h2 e => ?_, fun j l1 h1 => ?_⟩
    · rw [hset] at h1 h2
      split at h1
      · cases h1
      · split at h2
        · cases h2
        · exact f.oinj j k _ _ h1 h2 e
    · rw [hset] at h1
      split at h1
      · cases h1
      · rename_i hj
        obtain ⟨a1, a2, a3, a4, a5⟩ := f.own j l1 h1
        exact ⟨fun h => h.elim a1 fun e => hj (f.oinj j i _ _ h1 hs e), a2, a3, a4, a5⟩
theorem zc2 {st : Stmt} {i : Nat} {b : S} (hv : ∃ x, ε.vars.lookup x = some i) (h : SoundS cx ε st b) : SoundS cx ε st (.seq (.fz i) b) := by
  intro n cf A env F s ρ ad m cm H ρ' o he Q E hQ
  rw [znd, ex_fz] at he
  cases hown : ownAt ρ i with
  | none =>
    rw [hown] at he
    exact h n cf A env F s ρ ad m cm H ρ' o he Q E hQ
  | some l =>
    rw [hown] at he
    obtain ⟨F', x, f⟩ := frozen H hown hv
    exact h n cf A env F' s _ ad m cm (H.stepS x f) ρ' o he Q E (hQ.after x)
end
end Mine
end MpLx
section MpMx
open PySem PySem.Calls PyProof.Rows PySem.Builtin.Str
namespace Mine
section
variable {cx : XCx} {ε : Sc} {n : Nat} {cf : Nat → List D → Option D} {A : Around} {env : Env} {F F₀ : Addr → Prop} {s s₀ : Shared} {ρ : List Slot} {ad ad' : Nat → Addr} {m cm m' cm' : Str → Option Value}
theorem zjt (H : HereS cx ε n cf A env F s ρ ad m cm) {b : Addr} (hb : Mut env ρ ad b) {h' : Heap} (sb : Heap.SameBut b s.heap h') (k : Nat) :
    Wd cx F { s with heap := h', toks := k } ∧ (∀ a o, F a → s.heap.get? a = some o → h'.get? a = some o) := by
  obtain ⟨nf, nx⟩ := H.frm.notF hb
  have hk : ∀ a o, a ≠ b → s.heap.get? a = some o → h'.get? a = some o := fun a o h e => (sb.2 a h).trans e
  have fne : ∀ a, F a → a ≠ b := fun a h e => nf (e ▸ h)
  refine ⟨⟨fun a o e x => hk a o (fne a (H.wd.f0 a o e x)) (H.wd.base a o e x), H.ok.xi _ _ _ _ H.wd.xi (fun _ h => h) (fun a o h e => hk a o (h.elim (fne a) fun h e => nx (e ▸ h)) e), H.wd.gens, H.wd.f0, fun a f => let ⟨o, e⟩ := H.wd.lt a f; ⟨o, hk a o (fne a f) e⟩, H.wd.nx,
    fun a f => let ⟨o, e⟩ := H.wd.xex a f; ⟨o, hk a o (fun e => nx (e ▸ f)) e⟩⟩, fun a o f e => hk a o (fne a f) e⟩
theorem zgI (H₀ : HereS cx ε n cf A env F₀ s₀ ρ ad m cm) (x : Step cx F₀ s₀ F s) {b : Addr} (hb : Mut env ρ ad b) {h' : Heap} (sb : Heap.SameBut b s.heap h') (k : Nat) {i : Nat} {sl : Slot}
    (hmu : ∀ l, sl = .own l → Mut env ρ ad (ad' i) ∨ s₀.heap.get? (ad' i) = none) (had : ∀ j, j ≠ i → ad' j = ad j) : StepS cx env F₀ s₀ ρ ad F { s with heap := h', toks := k } (ρ.set i sl) ad' := by
  refine ⟨x.sub, fun a h => (x.new a h).imp id .inl, fun a o e nx nm => ?_, x.os, (zjt (H₀.step x) hb sb k).1, fun a h => ?_⟩
  · exact (sb.2 a fun e => nm (e ▸ hb)).trans (x.keep a o e nx)
  · rcases h with h | h | ⟨j, l, hj, rfl⟩
    · exact .inl (.inl h)
    · exact .inl (.inr (.inl h))
    · rw [zbN] at hj
      by_cases e : j = i
      · subst e
        rw [if_pos rfl] at hj
        split at hj
        · exact hmu l hj
        · cases hj
      · rw [if_neg e] at hj
        rw [had j e]
        exact .inl (.inr (.inr ⟨j, l, hj, rfl⟩))
set_option genInjectivity false in
structure NewOwn (cx : XCx) (env : Env) (F : Addr → Prop) (h' : Heap) (ρ : List Slot) (ad ad' : Nat → Addr) (i : Nat) : Prop where
  nf : ¬ F (ad' i)
  nx : ¬ cx.X (ad' i)
  is : ∃ vs n, h'.get? (ad' i) = some (lobj vs n)
  nl : ad' i ≠ env.locals
  nc : ∀ n, env.cells.lookup n ≠ some (ad' i)
  oth : ∀ j l, j ≠ i → slotAt ρ j = .own l → ad j ≠ ad' i
theorem Frm.put (H : HereS cx ε n cf A env F s ρ ad m cm) {b : Addr} (hb : Mut env ρ ad b) {h' : Heap} (sb : Heap.SameBut b s.heap h') (k : Nat) {i : Nat} {sl : Slot}
    (hns : h'.Ns env.locals m') (hcells : ∀ n c, env.cells.lookup n = some c → h'.IsCell c (cm' n))
    (hvars : ∀ x j, ε.vars.lookup x = some j → j ≠ i → m' x = m x ∧ cm' x = cm x)
    (hnew : ∀ x, ε.vars.lookup x = some i → (ε.kinds.lookup x = some .local → SlotRep cx F h' ad' i (m' x) sl) ∧ (ε.kinds.lookup x ≠ some .local → SlotRep cx F h' ad' i (cm' x) sl))
    (had : ∀ j, j ≠ i → ad' j = ad j) (happ : ad' i = ad i ∨ ∀ j, slotAt ρ j ≠ .app i)
    (hbo : ∀ j l, slotAt ρ j = .own l → j ≠ i → ad j ≠ b) (hown : ∀ l, sl = .own l → NewOwn cx env F h' ρ ad ad' i) :
    Frm cx ε env F { s with heap := h', toks := k } (ρ.set i sl) ad' m' cm' := by
  have f := H.frm
  obtain ⟨w', keep⟩ := zjt H hb sb k
  have keepB : ∀ a o, a ≠ b → s.heap.get? a = some o → h'.get? a = some o := fun a o h e => (sb.2 a h).trans e
  have old : ∀ j ov, j ≠ i → SlotRep cx F s.heap ad j ov (slotAt ρ j) → SlotRep cx F h' ad' j ov (slotAt ρ j) := by
    intro j ov hj q
    have hbo := fun l e => hbo j l e hj
    have happ := happ.imp id fun h => h j
    generalize slotAt ρ j = x at q hbo happ
    cases q with
    | unset => exact .unset
    | val q => exact .val (q.mono (fun _ h => h) keep)
    | own nf nx g z q =>
      rw [← had j hj] at nf nx g ⊢
      exact .own nf nx (keepB _ _ (by rw [had j hj]; exact hbo _ rfl) g) z (q.mono (fun _ h => h) keep)
    | @app b' o k fb g e =>
      refine .app fb (keep _ _ fb g) ?_
      by_cases hk : k = i
      · subst hk
        rcases happ with h | h
        · rw [h]; exact e
        · exact absurd rfl h
      · rw [had k hk]; exact e
  have slots : ∀ x j, ε.vars.lookup x = some j →
    (ε.kinds.lookup x = some .local ∧ SlotRep cx F h' ad' j (m' x) (slotAt (ρ.set i sl) j)) ∨
    ((ε.kinds.lookup x = some .cell ∨ ε.kinds.lookup x = some .free) ∧ (∃ c, env.cells.lookup x = some c) ∧ SlotRep cx F h' ad' j (cm' x) (slotAt (ρ.set i sl) j)) := by
    intro x j hx
    rw [zbN]
    by_cases e : j = i
    · subst e
      rw [if_pos rfl]
      have nl : ∀ {k : NameKind}, ε.kinds.lookup x = some k → k ≠ .local → ε.kinds.lookup x ≠ some .local := fun h hk e => hk (by rw [h] at e; exact Option.some.inj e)
      rcases f.en.vars x j hx with ⟨k, q⟩ | ⟨k, c, q⟩
      · left
        refine ⟨k, ?_⟩
        split
        · exact (hnew x hx).1 k
        · exact .unset
      · right
        refine ⟨k, c, ?_⟩
        split
        · refine (hnew x hx).2 fun e => ?_
          rw [e] at k; rcases k with k | k <;> cases k
        · exact .unset
    · rw [if_neg e]
      obtain ⟨e1, e2⟩ := hvars x j hx e
      rw [e1, e2]
      exact (f.en.vars x j hx).imp (fun ⟨k, q⟩ => ⟨k, old j _ e q⟩) fun ⟨k, c, q⟩ => ⟨k, c, old j _ e q⟩
  refine ⟨⟨f.en.kind, f.en.names, f.en.glob, f.en.blt, f.en.code, f.en.lx, f.en.cxx, hns, hcells, slots⟩, f.lf, f.cf, f.cinj, fun p q l1 l2 h1 h2 e => ?_, fun j l hj => ?_⟩
  · rw [zbN] at h1 h2
    by_cases hp : p = i
    · by_cases hq : q = i
      · rw [hp, hq]
      · subst hp
        rw [if_pos rfl] at h1
        rw [if_neg hq] at h2
        split at h1
        · have := (hown l1 h1).oth q l2 hq h2
          rw [had q hq] at e
          exact absurd e.symm this
        · cases h1
    · by_cases hq : q = i
      · subst hq
        rw [if_neg hp] at h1
        rw [if_pos rfl] at h2
        split at h2
        · have := (hown l2 h2).oth p l1 hp h1
          rw [had p hp] at e
          exact absurd e this
        · cases h2
      · rw [if_neg hp] at h1
        rw [if_neg hq] at h2
        rw [had p hp, had q hq] at e
        exact f.oinj p q l1 l2 h1 h2 e
  · rw [zbN] at hj
    by_cases e : j = i
    · subst e
      rw [if_pos rfl] at hj
      split at hj
      · have q := hown l hj
        exact ⟨q.nf, q.nx, q.is, q.nl, q.nc⟩
      · cases hj
    · rw [if_neg e] at hj
      rw [had j e]
      obtain ⟨a1, a2, ⟨vs, n, g⟩, a4, a5⟩ := f.own j l hj
      exact ⟨a1, a2, ⟨vs, n, keepB _ _ (hbo j l hj e) g⟩, a4, a5⟩
theorem zfr (H₀ : HereS cx ε n cf A env F₀ s₀ ρ ad m cm) (st : Step cx F₀ s₀ F s) {x : Str} {i : Nat} (hx : ε.vars.lookup x = some i) (hfree : ε.kinds.lookup x ≠ some .free) {v : Value} {sl : Slot}
    (had : ∀ j, j ≠ i → ad' j = ad j) (happ : ad' i = ad i ∨ ∀ j, slotAt ρ j ≠ .app i)
    (hv : ∀ h', (∀ a o, F a ∨ ¬ Mut env ρ ad a → s.heap.get? a = some o → h'.get? a = some o) → SlotRep cx F h' ad' i (some v) sl)
    (hmu : ∀ l, sl = .own l → s₀.heap.get? (ad' i) = none ∧ ¬ F (ad' i) ∧ ¬ cx.X (ad' i) ∧ ∃ vs n, s.heap.get? (ad' i) = some (lobj vs n))
    {Q : Unit → Shared → Prop} {E : Value → Shared → Prop}
    (hQ : ∀ s' m' cm', (∀ a o, ¬ Mut env ρ ad a → s.heap.get? a = some o → s'.heap.get? a = some o) → StepS cx env F₀ s₀ ρ ad F s' (ρ.set i sl) ad' → Frm cx ε env F s' (ρ.set i sl) ad' m' cm' → Q () s') :
    wpAny (model cx.prog cx.w) A (storeName env x v) Q E s := by
  have H := H₀.step st
  have f := H.frm
  have notMut : ∀ l, sl = .own l → ¬ Mut env ρ ad (ad' i) := fun l hl hm => by
    obtain ⟨o, e⟩ := H₀.frm.isSome hm
    rw [(hmu l hl).1] at e; cases e
  have mkOwn : ∀ h', (∀ a o, ¬ Mut env ρ ad a → s.heap.get? a = some o → h'.get? a = some o) → ∀ l, sl = .own l → NewOwn cx env F h' ρ ad ad' i := by
    intro h' hk l hl
    obtain ⟨a1, a2, a3, vs, n, a4⟩ := hmu l hl
    have nm := notMut l hl
    exact ⟨a2, a3, ⟨vs, n, hk _ _ nm a4⟩, fun e => nm (.inl e), fun n e => nm (.inr (.inl ⟨n, e⟩)), fun j l' hj hs e => nm (.inr (.inr ⟨j, l', hs, e.symm⟩))⟩
  have others : ∀ y j, ε.vars.lookup y = some j → j ≠ i → y ≠ x := fun y j hy hj e => hj (by subst e; rw [hx] at hy; exact (Option.some.inj hy).symm)
  have same : ∀ y, ε.vars.lookup y = some i → y = x := fun y hy => H.sc.inj y x i hy hx
  rcases f.en.vars x i hx with ⟨hk, _⟩ | ⟨hk, ⟨c, hc⟩, _⟩
  · have hl : env.kindOf x = some .local := by unfold Env.kindOf; rw [f.en.names]; exact hk
    have hp : (env.scope.kind == .class || (env.scope.kind == .module && env.locals != env.globals)) = false := by rw [f.en.kind]; rfl
    refine wpAny_storeName_local hl f.en.ns (fun h' hn sb => ?_) hp
    have hb : Mut env ρ ad env.locals := .inl rfl
    have hk1 : ∀ a o, ¬ Mut env ρ ad a → s.heap.get? a = some o → h'.get? a = some o := fun a o nm e => (sb.2 a fun e => nm (e ▸ hb)).trans e
    have hk2 : ∀ a o, F a ∨ ¬ Mut env ρ ad a → s.heap.get? a = some o → h'.get? a = some o := fun a o nm e => nm.elim (fun h => (sb.2 a fun e => f.lf (e ▸ h)).trans e) fun h => hk1 a o h e
    refine hQ _ (fun y => if y = x then some v else m y) cm hk1 (zgI H₀ st hb sb _ (fun l hl => .inr (hmu l hl).1) had) ?_
    refine Frm.put H hb sb _ hn (fun n c hc => ?_) (fun y j hy hj => ⟨if_neg (others y j hy hj), rfl⟩) (fun y hy => ?_) had happ (fun j l hs _ => (f.own j l hs).2.2.2.1) (mkOwn h' hk1)
    · obtain ⟨o, g, d⟩ := f.en.cells n c hc
      exact ⟨o, (sb.2 c (f.cf n c hc).2).trans g, d⟩
    · have ey := same y hy
      refine ⟨fun _ => ?_, fun h => absurd (ey ▸ hk) h⟩
      show SlotRep cx F h' ad' i (if y = x then some v else m y) sl
      rw [if_pos ey]
      exact hv h' hk2
  · have hl : env.kindOf x = some .cell := by
      unfold Env.kindOf; rw [f.en.names]
      exact hk.resolve_right hfree
    refine wpAny_storeName_cell f.en.kind hl hc (f.en.cells x c hc) (fun h' hn sb => ?_)
    have hb : Mut env ρ ad c := .inr (.inl ⟨x, hc⟩)
    have hk1 : ∀ a o, ¬ Mut env ρ ad a → s.heap.get? a = some o → h'.get? a = some o := fun a o nm e => (sb.2 a fun e => nm (e ▸ hb)).trans e
    have hk2 : ∀ a o, F a ∨ ¬ Mut env ρ ad a → s.heap.get? a = some o → h'.get? a = some o := fun a o nm e => nm.elim (fun h => (sb.2 a fun e => (f.cf x c hc).1 (e ▸ h)).trans e) fun h => hk1 a o h e
    refine hQ _ m (fun y => if y = x then some v else cm y) hk1 (zgI H₀ st hb sb s.toks (fun l hl => .inr (hmu l hl).1) had) ?_
    refine Frm.put H hb sb _ (f.en.ns.sameBut sb (Ne.symm (f.cf x c hc).2)) (fun n c' hc' => ?_) (fun y j hy hj => ⟨rfl, if_neg (others y j hy hj)⟩) (fun y hy => ?_) had happ (fun j l hs _ e => (f.own j l hs).2.2.2.2 x (e ▸ hc)) (mkOwn h' hk1)
    · by_cases e : n = x
      · subst e
        rw [hc] at hc'; cases hc'
        rw [if_pos rfl]
        exact hn
      · rw [if_neg e]
        obtain ⟨o, g, d⟩ := f.en.cells n c' hc'
        exact ⟨o, (sb.2 c' fun e' => e (f.cinj n x c (e' ▸ hc') hc)).trans g, d⟩
    · have ey := same y hy
      refine ⟨fun h => ?_, fun _ => ?_⟩
      · rw [ey] at h; rw [h] at hk; rcases hk with hk | hk <;> cases hk
      · show SlotRep cx F h' ad' i (if y = x then some v else cm y) sl
        rw [if_pos ey]
        exact hv h' hk2
theorem zgC (H₀ : HereS cx ε n cf A env F₀ s₀ ρ ad m cm) (st : Step cx F₀ s₀ F s) {x : Str} {i : Nat} (hx : ε.vars.lookup x = some i) (hfree : ε.kinds.lookup x ≠ some .free) {v : Value} {sl : Slot}
    (had : ∀ j, j ≠ i → ad' j = ad j) (happ : ad' i = ad i ∨ ∀ j, slotAt ρ j ≠ .app i)
    (hv : ∀ h', (∀ a o, F a ∨ ¬ Mut env ρ ad a → s.heap.get? a = some o → h'.get? a = some o) → SlotRep cx F h' ad' i (some v) sl)
    (hmu : ∀ l, sl = .own l → s₀.heap.get? (ad' i) = none ∧ ¬ F (ad' i) ∧ ¬ cx.X (ad' i) ∧ ∃ vs n, s.heap.get? (ad' i) = some (lobj vs n))
    {Q : Unit → Shared → Prop} {E : Value → Shared → Prop}
    (hQ : ∀ s' m' cm', StepS cx env F₀ s₀ ρ ad F s' (ρ.set i sl) ad' → Frm cx ε env F s' (ρ.set i sl) ad' m' cm' → Q () s') :
    wpAny (model cx.prog cx.w) A (storeName env x v) Q E s := zfr H₀ st hx hfree had happ hv hmu fun s' m' cm' _ => hQ s' m' cm'
end
end Mine
end MpMx
section MpNx
open PySem PySem.Calls PyProof.Rows PySem.Builtin.Str
namespace Mine
section
variable {cx : XCx} {ε : Sc} {n : Nat} {cf : Nat → List D → Option D} {A : Around} {env : Env} {F F₀ F' : Addr → Prop} {s s₀ s' : Shared} {ρ ρ' : List Slot} {ad ad' : Nat → Addr} {m cm m' cm' : Str → Option Value}
theorem StepS.rep (x : StepS cx env F s ρ ad F' s' ρ' ad') (H : HereS cx ε n cf A env F s ρ ad m cm) {v : Value} {d : D} (r : Rep cx.T F s.heap v d) : Rep cx.T F' s'.heap v d :=
  r.mono x.sub fun a o f e => x.keep a o e (H.wd.nx a f) fun hm => (H.frm.notF hm).1 f
theorem StepS.repL (x : StepS cx env F s ρ ad F' s' ρ' ad') (H : HereS cx ε n cf A env F s ρ ad m cm) {v : List Value} {d : List D} (r : RepL cx.T F s.heap v d) : RepL cx.T F' s'.heap v d :=
  r.mono x.sub fun a o f e => x.keep a o e (H.wd.nx a f) fun hm => (H.frm.notF hm).1 f
theorem zd4 (H₀ : HereS cx ε n cf A env F₀ s₀ ρ ad m cm) (st : Step cx F₀ s₀ F s) {x : Str} {i : Nat} (hx : ε.vars.lookup x = some i) (hfree : ε.kinds.lookup x ≠ some .free) {v : Value} {d : D} (hv : Rep cx.T F s.heap v d)
    {Q : Unit → Shared → Prop} {E : Value → Shared → Prop}
    (hQ : ∀ s' m' cm', StepS cx env F₀ s₀ ρ ad F s' (ρ.set i (.val d)) ad → Frm cx ε env F s' (ρ.set i (.val d)) ad m' cm' → Q () s') :
    wpAny (model cx.prog cx.w) A (storeName env x v) Q E s :=
  zgC H₀ st hx hfree (sl := .val d) (ad' := ad) (fun _ _ => rfl) (.inl rfl) (fun h' hk => .val (hv.mono (fun _ h => h) fun a o f e => hk a o (.inl f) e)) (fun _ e => nomatch e) hQ
theorem zjI {x : X} {d : D} (h : ev1 cf x ρ = some d) : ∃ r, ev cf x ρ = some [r] ∧ r.fz = some d := by
  unfold ev1 at h
  split at h
  · rename_i r e; exact ⟨r, e, h⟩
  · cases h
theorem zeb (H : HereS cx ε n cf A env F s ρ ad m cm) {e : Expr} {x : X} (h : Sound cx ε e x) {d : D} (hd : ev1 cf x ρ = some d) {Q : Value → Shared → Prop} {E : Value → Shared → Prop}
    (hQ : ∀ v F' s', Step cx F s F' s' → Rep cx.T F' s'.heap v d → Q v s') : wpAny (model cx.prog cx.w) A (eval e env) Q E s := by
  obtain ⟨r, e1, e2⟩ := zjI hd
  refine h.ev n cf A env F s ρ ad m cm H.here r e1 _ _ fun v F' s' st q => ?_
  obtain ⟨F'', st', _, q'⟩ := st.fz H.ok H.wd q e2
  exact hQ v F'' s' st' q'
end
section
variable {cx : XCx} {ε : Sc}
theorem ziB {pos : Pos} : SoundS cx ε (.Break pos) .brk := by
  intro n cf A env F s ρ ad m cm H ρ' o h Q E hQ
  replace h := (exq_brk cf).symm.trans h; cases h
  exact wpAny_Break (hQ .brk F s ad m cm (StepS.refl H.wd) H.frm .brk)
theorem zgE {pos : Pos} : SoundS cx ε (.Continue pos) .cont := by
  intro n cf A env F s ρ ad m cm H ρ' o h Q E hQ
  replace h := (zmU cf).symm.trans h; cases h
  exact wpAny_Continue (hQ .cont F s ad m cm (StepS.refl H.wd) H.frm .cont)
theorem zat {e : Expr} {x : X} {pos : Pos} (hx : Sound cx ε e x) : SoundS cx ε (.Return (some e) pos) (.ret x) := by
  intro n cf A env F s ρ ad m cm H ρ' o h Q E hQ
  replace h := (zl2 cf).symm.trans h
  obtain ⟨d, hd, e'⟩ := Option.map_eq_some_iff.mp h
  cases e'
  refine wpAny_Return_some (zeb H hx hd fun v F' s' st q => ?_)
  exact hQ _ F' s' ad m cm (.ofStep st) (H.step st).frm (.ret q)
theorem zai {c : Expr} {x : X} {bs es : List Stmt} {a b : S} {pos : Pos} (hx : Sound cx ε c x) (ha : SoundSs cx ε bs a) (hb : SoundSs cx ε es b) : SoundS cx ε (.If c bs es pos) (.ite x a b) := by
  intro n cf A env F s ρ ad m cm H ρ' o h Q E hQ
  replace h := (zl3 cf).symm.trans h
  split at h
  · rename_i e
    refine wpAny_If (hx.tr n cf A env F s ρ ad m cm H.here true e _ _ fun F' s' st => ?_)
    show wpAny _ _ _ _ _ _
    exact ha n cf A env F' s' ρ ad m cm (H.step st) ρ' o h _ _ (hQ.after (.ofStep st))
  · rename_i e
    refine wpAny_If (hx.tr n cf A env F s ρ ad m cm H.here false e _ _ fun F' s' st => ?_)
    show wpAny _ _ _ _ _ _
    exact hb n cf A env F' s' ρ ad m cm (H.step st) ρ' o h _ _ (hQ.after (.ofStep st))
  · cases h
theorem zhU {c : Expr} {x : X} {msg : Option Expr} {pos : Pos} (hx : Sound cx ε c x) : SoundS cx ε (.Assert c msg pos) (.assert x) := by
  intro n cf A env F s ρ ad m cm H ρ' o h Q E hQ
  replace h := (zhG cf).symm.trans h
  split at h
  · rename_i e
    cases h
    refine wpAny_Assert_holds (hx.tr n cf A env F s ρ ad m cm H.here true e _ _ fun F' s' st => ?_)
    exact ⟨rfl, hQ .next F' s' ad m cm (.ofStep st) (H.step st).frm .next⟩
  · cases h
theorem zae {x : Str} {i : Nat} {e : Expr} {y : X} {pos' pos : Pos} (hx : ε.vars.lookup x = some i) (hf : ε.kinds.lookup x ≠ some .free) (h : Sound cx ε e y) (hs : ∀ env : Env, env.scope.kind = .function → env.scope.names = ε.kinds → swapsWith e (some (.Name x pos')) pos.line env = pure false) :
    SoundS cx ε (.Assign [.Name x pos'] e pos) (.assign i y) := by
  intro n cf A env F s ρ ad m cm H ρ' o he Q E hQ
  replace he := (zej cf).symm.trans he
  obtain ⟨d, hd, e'⟩ := Option.map_eq_some_iff.mp he
  cases e'
  refine wpAny_Assign_Name (zeb H h hd fun v F' s' st q => ?_) (hs env H.frm.en.kind H.frm.en.names)
  exact zd4 H st hx hf q fun s'' m' cm' x f => hQ .next F' s'' ad m' cm' x f .next
theorem zj6 {i : Nat} {ρ : List Slot} (h : noApp i ρ = true) : ∀ j, slotAt ρ j ≠ .app i := by
  intro j e
  unfold noApp at h
  rw [List.all_eq_true] at h
  unfold slotAt at e
  rw [List.getD_eq_getElem?_getD] at e
  cases hj : ρ[j]? with
  | none => rw [hj] at e; cases e
  | some sl =>
    rw [hj] at e
    have := h sl (List.mem_of_getElem? hj)
    have e' : sl = .app i := e
    subst e'
    simp at this
theorem zbD {x : Str} {i : Nat} {e : Expr} {y : X} {pos' pos : Pos} (hx : ε.vars.lookup x = some i) (hf : ε.kinds.lookup x ≠ some .free) (h : Sound cx ε e y) (hs : ∀ env : Env, env.scope.kind = .function → env.scope.names = ε.kinds → swapsWith e (some (.Name x pos')) pos.line env = pure false) :
    SoundS cx ε (.Assign [.Name x pos'] e pos) (.assignO i y) := by
  intro n cf A env F s ρ ad m cm H ρ' o he Q E hQ
  replace he := (zeP cf).symm.trans he
  split at he
  · rename_i hna
    split at he
    · rename_i l e1
      cases he
      refine wpAny_Assign_Name (h.ev n cf A env F s ρ ad m cm H.here _ e1 _ _ fun v F' s' st q => ?_) (hs env H.frm.en.kind H.frm.en.names)
      cases q with
      | @own a vs k l lo nf nx g z q =>
        refine zgC H st hx hf (sl := .own l) (ad' := fun j => if j = i then a else ad j) (fun j hj => if_neg hj) (.inr (zj6 hna)) (fun h' hk => ?_) (fun l' _ => ?_) fun s'' m' cm' x f => hQ .next F' s'' _ m' cm' x f .next
        · have nm : ¬ Mut env ρ ad a := fun hm => by
            obtain ⟨o, e⟩ := H.frm.isSome hm
            rw [lo] at e; cases e
          have : SlotRep cx F' h' (fun j => if j = i then a else ad j) i (some (.ref ((fun j => if j = i then a else ad j) i))) (.own l) := by
            refine .own (vs := vs) (n := k) ?_ ?_ ?_ z (q.mono (fun _ h => h) fun b o f e => hk b o (.inl f) e) <;> simp only [if_true]
            · exact nf
            · exact nx
            · exact hk a _ (.inr nm) g
          simpa using this
        · simp only [if_true]
          exact ⟨lo, nf, nx, _, _, g⟩
    · rename_i d e1
      cases he
      refine wpAny_Assign_Name (h.ev n cf A env F s ρ ad m cm H.here _ e1 _ _ fun v F' s' st q => ?_) (hs env H.frm.en.kind H.frm.en.names)
      cases q with
      | val q => exact zd4 H st hx hf q fun s'' m' cm' x f => hQ .next F' s'' ad m' cm' x f .next
    · cases he
  · cases he
end
end Mine
end MpNx
section MpOx
open PySem PySem.Calls PyProof.Rows PySem.Builtin.Str
namespace Mine
set_option genInjectivity false in
structure Iter (cx : XCx) (A : Around) (F₀ : Addr → Prop) (s₀ : Shared) (items : List D) (I : Addr) (F : Addr → Prop) (s : Shared) (fp wr : List Addr) (P : Nat → Value → Prop) (St : Nat → Heap → Prop) : Prop where
  st : Step cx F₀ s₀ F s
  W : ∀ A' : Around, A'.handled = none → Walks cx.prog cx.w A' I fp wr items.length P St
  s0 : St 0 s.heap
  new : ∀ b ∈ wr, s₀.heap.get? b = none ∧ ¬ F b
  one : ∀ b ∈ wr, b = I
  deps : ∀ b ∈ fp, b ∈ wr ∨ F b
  item : ∀ i v, P i v → ∃ d, items[i]? = some d ∧ Rep cx.T F s.heap v d
  ty : ∀ i h, St i h → ∃ o T, h.get? I = some o ∧ o.cls = .type T ∧ ["enumerate", "zip", "dict_itemiterator", "dict_reverseitemiterator", "odict_iterator", "itertools.zip_longest", "itertools.pairwise"].contains T = false
  lim : items.length ≤ lim
noncomputable def SoundI (cx : XCx) (ε : Sc) (it : Expr) (x : X) : Prop :=
  ∀ n cf A env F s ρ ad m cm, Here cx ε n cf A env F s ρ ad m cm → ∀ items, evI cf x ρ = some items → ∀ (Q : Value → Shared → Prop) (E : Value → Shared → Prop),
    (∀ I F' s' fp wr P St, Iter cx A F s items I F' s' fp wr P St → Q (.ref I) s') →
    wpAny (model cx.prog cx.w) A (eval it env) (fun v s₁ => wpAny (model cx.prog cx.w) A (pyIter v) Q E s₁) E s
noncomputable def SoundA (cx : XCx) (ε : Sc) (target : Expr) (put : D → List Slot → Option (List Slot)) : Prop :=
  ∀ n cf A env F s ρ ad m cm, HereS cx ε n cf A env F s ρ ad m cm → ∀ v d ρ', Rep cx.T F s.heap v d → put d ρ = some ρ' → ∀ (Q : Unit → Shared → Prop) (E : Value → Shared → Prop),
    (∀ F' s' m' cm', StepS cx env F s ρ ad F' s' ρ' ad → Frm cx ε env F' s' ρ' ad m' cm' → Q () s') → wpAny (model cx.prog cx.w) A (assign target env v) Q E s
section
variable {cx : XCx} {ε : Sc} {n : Nat} {cf : Nat → List D → Option D} {A : Around} {env : Env} {F F₀ F' : Addr → Prop} {s s₀ s' : Shared} {ρ ρ' : List Slot} {ad ad' : Nat → Addr} {m cm m' cm' : Str → Option Value}
theorem Frm.kept (f : Frm cx ε env F s ρ ad m cm) {h' : Heap} (k : Nat) (hk : ∀ a o, F a ∨ Mut env ρ ad a → s.heap.get? a = some o → h'.get? a = some o) :
    Frm cx ε env F { s with heap := h', toks := k } ρ ad m cm := by
  have hl : Mut env ρ ad env.locals := .inl rfl
  have slots : ∀ j ov, SlotRep cx F s.heap ad j ov (slotAt ρ j) → SlotRep cx F h' ad j ov (slotAt ρ j) := by
    intro j ov q
    have hm : ∀ l, slotAt ρ j = .own l → Mut env ρ ad (ad j) := fun l e => .inr (.inr ⟨j, l, e, rfl⟩)
    generalize slotAt ρ j = x at q hm
    cases q with
    | unset => exact .unset
    | val q => exact .val (q.mono (fun _ h => h) fun a o f e => hk a o (.inl f) e)
    | own nf nx g z q => exact .own nf nx (hk _ _ (.inr (hm _ rfl)) g) z (q.mono (fun _ h => h) fun a o f e => hk a o (.inl f) e)
    | app fb g e => exact .app fb (hk _ _ (.inl fb) g) e
  refine ⟨⟨f.en.kind, f.en.names, f.en.glob, f.en.blt, f.en.code, f.en.lx, f.en.cxx, f.en.ns.at' fun o e => hk _ o (.inr hl) e, fun n c hc => let ⟨o, g, d⟩ := f.en.cells n c hc; ⟨o, hk _ o (.inr (.inr (.inl ⟨n, hc⟩))) g, d⟩,
    fun y i hy => (f.en.vars y i hy).imp (fun ⟨k, q⟩ => ⟨k, slots i _ q⟩) fun ⟨k, c, q⟩ => ⟨k, c, slots i _ q⟩⟩, f.lf, f.cf, f.cinj, f.oinj, fun i l hi => ?_⟩
  obtain ⟨a1, a2, ⟨vs, n, g⟩, a4, a5⟩ := f.own i l hi
  exact ⟨a1, a2, ⟨vs, n, hk _ _ (.inr (.inr (.inr ⟨i, l, hi, rfl⟩))) g⟩, a4, a5⟩
theorem StepS.kept (ok : CxOk cx) (w₀ : Wd cx F₀ s₀) (x : StepS cx env F₀ s₀ ρ ad F s ρ' ad') (f : Frm cx ε env F s ρ' ad' m cm) {wr : List Addr} (hw : ∀ b ∈ wr, s₀.heap.get? b = none ∧ ¬ F b ∧ ¬ Mut env ρ' ad' b) {h' : Heap} (k : Nat)
    (hk : ∀ a o, a ∉ wr → s.heap.get? a = some o → h'.get? a = some o) : StepS cx env F₀ s₀ ρ ad F { s with heap := h', toks := k } ρ' ad' ∧ Frm cx ε env F { s with heap := h', toks := k } ρ' ad' m cm := by
  have nf : ∀ a, F a → a ∉ wr := fun a h hm => (hw a hm).2.1 h
  have nm : ∀ a, Mut env ρ' ad' a → a ∉ wr := fun a h hm => (hw a hm).2.2 h
  have nx : ∀ a, cx.X a → a ∉ wr := fun a h hm => by
    obtain ⟨o, e⟩ := w₀.xex a h
    rw [(hw a hm).1] at e; cases e
  have w := x.wd
  refine ⟨⟨x.sub, x.new, fun a o e ax am => ?_, x.os, ⟨fun a o e ax => hk a o (nf a (w.f0 a o e ax)) (w.base a o e ax), ok.xi _ _ _ _ w.xi (fun _ h => h) (fun a o h e => hk a o (h.elim (nf a) (nx a)) e), w.gens, w.f0, fun a h => let ⟨o, e⟩ := w.lt a h; ⟨o, hk a o (nf a h) e⟩, w.nx, fun a h => let ⟨o, e⟩ := w.xex a h; ⟨o, hk a o (nx a h) e⟩⟩, x.mu⟩, f.kept k fun a o h e => hk a o (h.elim (nf a) (nm a)) e⟩
  refine hk a o (fun hm => ?_) (x.keep a o e ax am)
  rw [(hw a hm).1] at e; cases e
end
section
variable {cx : XCx} {ε : Sc}
theorem zjc {x : Str} {i : Nat} {p : Pos} (hx : ε.vars.lookup x = some i) (hf : ε.kinds.lookup x ≠ some .free) : SoundA cx ε (.Name x p) (put1 i) := by
  intro n cf A env F s ρ ad m cm H v d ρ' hv hp Q E hQ
  cases hp
  exact wpAny_assign_Name (zd4 H (Step.refl H.wd) hx hf hv fun s' m' cm' x f => hQ F s' m' cm' x f)
inductive WhI (cx : XCx) (ε : Sc) (env : Env) (F : Addr → Prop) (s : Shared) (ρ : List Slot) (ad : Nat → Addr) (go : Nat → List Slot → Option (List Slot × Out)) (res : Option (List Slot × Out)) (k : Nat) (s' : Shared) : Prop
  | mk (F' : Addr → Prop) (ρ₁ : List Slot) (ad₁ : Nat → Addr) (m₁ cm₁ : Str → Option Value) (x1 : StepS cx env F s ρ ad F' s' ρ₁ ad₁) (f1 : Frm cx ε env F' s' ρ₁ ad₁ m₁ cm₁) (hg : go k ρ₁ = res)
theorem zcM {c : Expr} {x : X} {bs : List Stmt} {b : S} {pos : Pos} (hx : Sound cx ε c x) (hb : SoundSs cx ε bs b) : SoundS cx ε (.While c bs [] pos) (.while x b) := by
  intro n cf A env F s ρ ad m cm H ρ' o h Q E hQ
  replace h := (ziS cf).symm.trans h
  refine wpAny_While ?_
  refine codeAny_whileLoop (WhI cx ε env F s ρ ad (whileGo (evT cf x) (ex cf b)) (some (ρ', o))) (fun k s' hI => ?_) Mine.wf
    ⟨F, ρ, ad, m, cm, StepS.refl H.wd, H.frm, h⟩
  obtain ⟨F', ρ₁, ad₁, m₁, cm₁, x1, f1, hg⟩ := hI
  have H1 := H.stepS x1 f1
  cases k with
  | zero => cases hg
  | succ k =>
    unfold whileGo at hg
    split at hg
    · cases hg
    · rename_i e
      cases hg
      refine hx.tr n cf A env F' s' _ ad₁ m₁ cm₁ H1.here false e _ _ fun F2 s2 st => ?_
      show wpAny _ _ _ _ _ _
      exact wpAny_execs_nil (hQ .next F2 s2 ad₁ m₁ cm₁ (x1.trans (.ofStep st)) (H1.step st).frm .next)
    · rename_i e
      refine hx.tr n cf A env F' s' ρ₁ ad₁ m₁ cm₁ H1.here true e _ _ fun F2 s2 st => ?_
      show wpAny _ _ _ _ _ _
      have H2 := H1.step st
      split at hg
      · cases hg
      · rename_i ρ₂ e2
        refine hb n cf A env F2 s2 ρ₁ ad₁ m₁ cm₁ H2 ρ₂ .next e2 _ _ fun f F3 s3 ad3 m3 cm3 x3 f3 q => ?_
        cases q
        exact ⟨k, Nat.lt_succ_self k, F3, ρ₂, ad3, m3, cm3, (x1.trans (.ofStep st)).trans x3, f3, hg⟩
      · rename_i ρ₂ e2
        refine hb n cf A env F2 s2 ρ₁ ad₁ m₁ cm₁ H2 ρ₂ .cont e2 _ _ fun f F3 s3 ad3 m3 cm3 x3 f3 q => ?_
        cases q
        exact ⟨k, Nat.lt_succ_self k, F3, ρ₂, ad3, m3, cm3, (x1.trans (.ofStep st)).trans x3, f3, hg⟩
      · rename_i ρ₂ e2
        cases hg
        refine hb n cf A env F2 s2 ρ₁ ad₁ m₁ cm₁ H2 _ .brk e2 _ _ fun f F3 s3 ad3 m3 cm3 x3 f3 q => ?_
        cases q
        exact hQ .next F3 s3 ad3 m3 cm3 ((x1.trans (.ofStep st)).trans x3) f3 .next
      · rename_i ρ₂ d e2
        cases hg
        refine hb n cf A env F2 s2 ρ₁ ad₁ m₁ cm₁ H2 _ (.ret d) e2 _ _ fun f F3 s3 ad3 m3 cm3 x3 f3 q => ?_
        cases q with
        | ret r => exact hQ _ F3 s3 ad3 m3 cm3 ((x1.trans (.ofStep st)).trans x3) f3 (.ret r)
theorem zj8 {A : Around} {s : Shared} {E : Value → Shared → Prop} {target : Expr} {I : Addr} {v : Value} {Q : Unit → Shared → Prop} {o : Obj} {T : String} (hg : s.heap.get? I = some o) (hc : o.cls = .type T)
    (hT : ["enumerate", "zip", "dict_itemiterator", "dict_reverseitemiterator", "odict_iterator", "itertools.zip_longest", "itertools.pairwise"].contains T = false) (h : Q () s) :
    wpAny (model cx.prog cx.w) A (letOwnedTupleGo target (.ref I) v) Q E s := by
  have key : ∀ es k p, wpAny (model cx.prog cx.w) A (letOwnedTupleGo (.Tuple es k p) (.ref I) v) Q E s := by
    intro es k p
    cases v with
    | ref a =>
      show wpAny _ _ (load I >>= _) Q E s
      refine wpAny_bind (wpAny_load hg ?_)
      rw [hc]
      generalize o.data = dd
      cases dd with
      | fields vs =>
        show wpAny _ _ (if (_ && _) = true then _ else _) Q E s
        rw [hT]
        exact wpAny_pure h
      | _ => exact wpAny_pure h
    | _ => exact wpAny_pure h
  cases target with
  | Tuple es k p => exact key es k p
  | List es p => exact key [] 0 p
  | _ => exact wpAny_pure h
set_option genInjectivity false in
structure IterG (cx : XCx) (A : Around) (target : Expr) (F₀ : Addr → Prop) (s₀ : Shared) (items : List D) (I : Addr) (F : Addr → Prop) (s : Shared) (wr : List Addr) (Inv : Nat → Heap → Prop) (TR : (Addr → Prop) → Heap → Value → D → Prop) : Prop where
  st : Step cx F₀ s₀ F s
  i0 : Inv 0 s.heap
  new : ∀ b ∈ wr, s₀.heap.get? b = none ∧ ¬ F b
  live : ∀ j h, Inv j h → ∀ b ∈ wr, ∃ o, h.get? b = some o
  frame : ∀ j h h', Inv j h → (∀ b, b ∈ wr ∨ F b → ∀ o, h.get? b = some o → h'.get? b = some o) → Inv j h'
  next : ∀ j (s' : Shared) (F' : Addr → Prop) (K : Value → Shared → Prop) (N : Shared → Prop) (E : Value → Shared → Prop), j < items.length → Inv j s'.heap → (∀ v d, Rep cx.T F s.heap v d → Rep cx.T F' s'.heap v d) → (∀ b ∈ wr, ¬ F' b) →
    (∀ v h' tk d, items[j]? = some d → TR F' h' v d → Inv (j + 1) h' → (∀ b o, b ∉ wr → s'.heap.get? b = some o → h'.get? b = some o) → K v { s' with heap := h', toks := tk }) →
    wpAny (model cx.prog cx.w) A (pyNext (.ref I)) (fun r s₁ => match r with | none => N s₁ | some v => wpAny (model cx.prog cx.w) A (letOwnedTupleGo target (.ref I) v) (fun _ s₂ => K v s₂) E s₁) E s'
  done : ∀ (s' : Shared) (K : Value → Shared → Prop) (N : Shared → Prop) (E : Value → Shared → Prop), Inv items.length s'.heap → (∀ h' tk, (∀ b o, b ∉ wr → s'.heap.get? b = some o → h'.get? b = some o) → N { s' with heap := h', toks := tk }) →
    wpAny (model cx.prog cx.w) A (pyNext (.ref I)) (fun r s₁ => match r with | none => N s₁ | some v => wpAny (model cx.prog cx.w) A (letOwnedTupleGo target (.ref I) v) (fun _ s₂ => K v s₂) E s₁) E s'
theorem Iter.gen {A : Around} (hh : A.handled = none) {target : Expr} {F₀ F : Addr → Prop} {s₀ s : Shared} {items : List D} {I : Addr} {fp wr : List Addr} {P : Nat → Value → Prop} {St : Nat → Heap → Prop} (J : Iter cx A F₀ s₀ items I F s fp wr P St) :
    IterG cx A target F₀ s₀ items I F s wr St (Rep cx.T) := by
  refine ⟨J.st, J.s0, J.new, fun j h hs b hb => ?_, fun j h h' hs hk => (J.W A hh).frame _ _ _ hs fun b hb => hk b (J.deps b hb), fun j s' F' K N E hlt hst hrep hnw hQ => ?_, fun s' K N E hst hQ => ?_⟩
  · obtain ⟨o, _, g, _⟩ := J.ty _ _ hs
    exact J.one b hb ▸ ⟨o, g⟩
  · refine (J.W A hh).item j s' _ _ hlt hst fun v h' tk hP hst' hk => ?_
    obtain ⟨d, hd, hr⟩ := J.item j v hP
    obtain ⟨ob, T, g1, g2, g3⟩ := J.ty _ _ hst'
    exact zj8 (s := { s' with heap := h', toks := tk }) g1 g2 g3 (hQ v h' tk d hd ((hrep v d hr).mono (fun _ h => h) fun a o f e => hk a o (fun hm => hnw a hm f) e) hst' hk)
  · exact (J.W A hh).done s' _ _ hst fun h' tk hk => hQ h' tk hk
inductive ForI (cx : XCx) (ε : Sc) (env : Env) (F : Addr → Prop) (s : Shared) (ρ : List Slot) (ad : Nat → Addr) (F0 : Addr → Prop) (h0 : Heap) (wr : List Addr) (St : Nat → Heap → Prop) (items : List D) (go : List D → List Slot → Option (List Slot × Out)) (res : Option (List Slot × Out)) (k : Nat) (s' : Shared) : Prop
  | mk (j : Nat) (F' : Addr → Prop) (ρ₁ : List Slot) (ad₁ : Nat → Addr) (m₁ cm₁ : Str → Option Value) (hj : j ≤ items.length) (hk : k = items.length - j) (x1 : StepS cx env F s ρ ad F' s' ρ₁ ad₁) (hrep : ∀ v d, Rep cx.T F0 h0 v d → Rep cx.T F' s'.heap v d) (hF : ∀ a, F0 a → F' a) (f1 : Frm cx ε env F' s' ρ₁ ad₁ m₁ cm₁) (hst : St j s'.heap)
    (hwr : ∀ b ∈ wr, ¬ F' b ∧ ¬ Mut env ρ₁ ad₁ b) (hg : go (items.drop j) ρ₁ = res)
set_option genInjectivity false in
structure ForL (cx : XCx) (env : Env) (F0 : Addr → Prop) (h0 : Heap) (wr : List Addr) (St : Nat → Heap → Prop) (j : Nat) (F4 : Addr → Prop) (h4 : Heap) (ρ4 : List Slot) (ad4 : Nat → Addr) : Prop where
  p1 : ∀ v d, Rep cx.T F0 h0 v d → Rep cx.T F4 h4 v d
  p2 : ∀ a, F0 a → F4 a
  p3 : St j h4
  p4 : ∀ b ∈ wr, ¬ F4 b ∧ ¬ Mut env ρ4 ad4 b
theorem zlZ {target : Expr} {put : D → List Slot → Option (List Slot)} {it : Expr} {bs : List Stmt} {b : S} {pos : Pos} {TR : (Addr → Prop) → Heap → Value → D → Prop} (hb : SoundSs cx ε bs b)
    (hs : ∀ env x, foldedSetIterable it env x = pure x) {n cf A env F s ρ ad m cm} (H : HereS cx ε n cf A env F s ρ ad m cm) {items : List D}
    (ht : ∀ F s ρ m cm ad, HereS cx ε n cf A env F s ρ ad m cm → ∀ v d ρ', TR F s.heap v d → put d ρ = some ρ' → ∀ (Q : Unit → Shared → Prop) (E : Value → Shared → Prop), (∀ F' s' m' cm', StepS cx env F s ρ ad F' s' ρ' ad → Frm cx ε env F' s' ρ' ad m' cm' → Q () s') → wpAny (model cx.prog cx.w) A (assign target env v) Q E s)
    (hi : ∀ (Q : Value → Shared → Prop) (E : Value → Shared → Prop), (∀ I F' s' wr St, IterG cx A target F s items I F' s' wr St TR → Q (.ref I) s') → wpAny (model cx.prog cx.w) A (eval it env) (fun v s₁ => wpAny (model cx.prog cx.w) A (pyIter v) Q E s₁) E s)
    {ρ' : List Slot} {o : Out}
    (h : forGo put (ex cf b) items ρ = some (ρ', o)) {Q : Flow → Shared → Prop} {E : Value → Shared → Prop} (hQ : PostS cx ε env F s ρ ad ρ' o Q) : wpAny (model cx.prog cx.w) A (exec (.For target it bs [] pos) env) Q E s := by
  refine wpAny_For (hi _ _ fun I F0 s0 wr St J => ?_) (hs env)
  have hx0 : ∀ b ∈ wr, ¬ cx.X b := fun b hb h => by
    obtain ⟨o, e⟩ := H.wd.xex b h
    rw [(J.new b hb).1] at e; cases e
  refine codeAny_forLoop_any (ForI cx ε env F s ρ ad F0 s0.heap wr St items (forGo put (ex cf b)) (some (ρ', o))) (fun k s' hI => ?_) items.length
    ⟨0, F0, ρ, ad, m, cm, Nat.zero_le _, rfl, .ofStep J.st, fun _ _ h => h, fun _ h => h, (H.step J.st).frm, J.i0, fun b hb => ⟨(J.new b hb).2, fun hm => ?_⟩, h⟩
  rotate_left
  · obtain ⟨o, e⟩ := H.frm.isSome hm
    rw [(J.new b hb).1] at e; cases e
  obtain ⟨j, F', ρ₁, ad₁, m₁, cm₁, hj, rfl, x1, hrep, hF, f1, hst, hwr, hg⟩ := hI
  have hwr' : ∀ b ∈ wr, s.heap.get? b = none ∧ ¬ F' b ∧ ¬ Mut env ρ₁ ad₁ b := fun b hb => ⟨(J.new b hb).1, (hwr b hb).1, (hwr b hb).2⟩
  rcases Nat.lt_or_ge j items.length with hlt | hge
  · refine J.next j s' F' _ _ _ hlt hst hrep (fun b hb => (hwr b hb).1) fun v h' tk d hd htr hst' hk => ?_
    obtain ⟨x2, f2⟩ := x1.kept H.ok H.wd f1 hwr' tk hk
    have hdrop : items.drop j = d :: items.drop (j + 1) := by
      have h1 : items[j]? = some items[j] := List.getElem?_eq_getElem hlt
      rw [h1] at hd
      cases hd
      exact List.drop_eq_getElem_cons hlt
    rw [hdrop] at hg
    have keepF : ∀ a o, F' a → s'.heap.get? a = some o → h'.get? a = some o := fun a o f e => hk a o (fun hm => (hwr a hm).1 f) e
    have hr2 : ∀ v d, Rep cx.T F0 s0.heap v d → Rep cx.T F' h' v d := fun v d hr => (hrep v d hr).mono (fun _ h => h) keepF
    cases e2 : put d ρ₁ with
    | none => unfold forGo at hg; rw [e2] at hg; cases hg
    | some ρ₂ =>
    have H2 := H.stepS x2 f2
    refine ht F' _ ρ₁ m₁ cm₁ ad₁ H2 v d ρ₂ htr e2 _ _ fun F3 s3 m3 cm3 x3 f3 => ?_
    have H3 := H2.stepS x3 f3
    have later : ∀ {F4 s4 ρ4 ad4 m4 cm4}, StepS cx env F' { s' with heap := h', toks := tk } ρ₁ ad₁ F4 s4 ρ4 ad4 → Frm cx ε env F4 s4 ρ4 ad4 m4 cm4 →
        ForL cx env F0 s0.heap wr St (j + 1) F4 s4.heap ρ4 ad4 := by
      intro F4 s4 ρ4 ad4 m4 cm4 y f4
      refine ⟨fun v d q => y.rep H2 (hr2 v d q), fun a h => y.sub a (hF a h), J.frame _ _ _ hst' fun b hb ob' e => ?_, fun b hb => ?_⟩
      · rcases hb with hb | hb
        · exact y.keep b ob' e (hx0 b hb) (hwr b hb).2
        · exact y.keep b ob' e (H2.wd.nx b (hF b hb)) fun hm => (f2.notF hm).1 (hF b hb)
      · obtain ⟨ob, g1⟩ := J.live _ _ hst' b hb
        refine ⟨fun h => ?_, fun h => ?_⟩
        · rcases y.new b h with q | q | q
          · exact (hwr b hb).1 q
          · rw [show ({ s' with heap := h', toks := tk } : Shared).heap.get? b = some ob from g1] at q; cases q
          · exact (hwr b hb).2 q
        · rcases y.mu b h with q | q
          · exact (hwr b hb).2 q
          · rw [show ({ s' with heap := h', toks := tk } : Shared).heap.get? b = some ob from g1] at q; cases q
    cases e3 : ex cf b ρ₂ with
    | none => unfold forGo at hg; rw [e2] at hg; simp only [e3] at hg; cases hg
    | some pr =>
    obtain ⟨ρ₃, o3⟩ := pr
    replace hg : (match o3 with
      | .next => forGo put (ex cf b) (items.drop (j + 1)) ρ₃
      | .cont => forGo put (ex cf b) (items.drop (j + 1)) ρ₃
      | .brk => some (ρ₃, .next)
      | .ret d => some (ρ₃, .ret d)) = some (ρ', o) := by
      unfold forGo at hg
      rw [e2] at hg
      simp only [e3] at hg
      cases o3 <;> exact hg
    refine hb n cf A env F3 s3 ρ₂ ad₁ m3 cm3 H3 _ o3 e3 _ _ fun f F4 s4 ad4 m4 cm4 x4 f4 q => ?_
    have x24 := x2.trans (x3.trans x4)
    obtain ⟨p1, p2, p3, p4⟩ := later (x3.trans x4) f4
    have again : forGo put (ex cf b) (items.drop (j + 1)) ρ₃ = some (ρ', o) → ∃ m, m < items.length - j ∧ ForI cx ε env F s ρ ad F0 s0.heap wr St items (forGo put (ex cf b)) (some (ρ', o)) m s4 := fun hg =>
      ⟨items.length - (j + 1), Nat.sub_lt_sub_left hlt (Nat.lt_succ_self j), j + 1, F4, ρ₃, ad4, m4, cm4, hlt, rfl, x24, p1, p2, f4, p3, p4, hg⟩
    cases q with
    | next => exact again hg
    | cont => exact again hg
    | brk => cases hg; exact hQ .next F4 s4 ad4 m4 cm4 x24 f4 .next
    | ret r => cases hg; exact hQ _ F4 s4 ad4 m4 cm4 x24 f4 (.ret r)
  · have ej : j = items.length := Nat.le_antisymm (by assumption) (by assumption)
    subst ej
    rw [List.drop_length] at hg
    cases hg
    refine J.done s' _ _ _ hst fun h' tk hk => ?_
    obtain ⟨x2, f2⟩ := x1.kept H.ok H.wd f1 hwr' tk hk
    exact wpAny_execs_nil (hQ .next F' _ ad₁ m₁ cm₁ x2 f2 .next)
theorem zl0 {target : Expr} {put : D → List Slot → Option (List Slot)} {it : Expr} {x : X} {bs : List Stmt} {b : S} {pos : Pos} (ht : SoundA cx ε target put) (hi : SoundI cx ε it x) (hb : SoundSs cx ε bs b)
    (hs : ∀ env x, foldedSetIterable it env x = pure x) {n cf A env F s ρ ad m cm} (H : HereS cx ε n cf A env F s ρ ad m cm) {items : List D} (hit : evI cf x ρ = some items) {ρ' : List Slot} {o : Out}
    (h : forGo put (ex cf b) items ρ = some (ρ', o)) {Q : Flow → Shared → Prop} {E : Value → Shared → Prop} (hQ : PostS cx ε env F s ρ ad ρ' o Q) : wpAny (model cx.prog cx.w) A (exec (.For target it bs [] pos) env) Q E s :=
  zlZ (TR := Rep cx.T) hb hs H (fun F s ρ m cm ad => ht n cf A env F s ρ ad m cm) (fun Q E k => hi n cf A env F s ρ ad m cm H.here items hit Q E fun I F' s' fp wr P St J => k I F' s' wr St (J.gen H.bud.hd)) h hQ
theorem zb6 {x : Str} {i : Nat} {p : Pos} {it : Expr} {y : X} {bs : List Stmt} {b : S} {pos : Pos} (hx : ε.vars.lookup x = some i) (hf : ε.kinds.lookup x ≠ some .free) (hi : SoundI cx ε it y) (hb : SoundSs cx ε bs b)
    (hs : ∀ env x, foldedSetIterable it env x = pure x) : SoundS cx ε (.For (.Name x p) it bs [] pos) (.forE i y b) := by
  intro n cf A env F s ρ ad m cm H ρ' o h Q E hQ
  replace h := (zkh cf).symm.trans h
  split at h
  · rename_i items e
    exact zl0 (zjc hx hf) hi hb hs H e h hQ
  · cases h
end
end Mine
end MpOx
section MpPx
open PySem PySem.Calls PyProof.Rows PySem.Builtin.Str
namespace Mine
section
variable {cx : XCx} {ε : Sc}
theorem evI_seq {cf : Nat → List D → Option D} {x : X} {ρ : List Slot} {items : List D} (h : evI cf (.seqI x) ρ = some items) : ∃ r d, ev cf x ρ = some [r] ∧ r.fz = some d ∧ itemsOf d = some items := by
  unfold evI at h
  split at h
  · rename_i l e
    cases h
    replace e := (zaX _).symm.trans e
    split at e
    · rename_i r e1
      split at e
      · rename_i d e2
        obtain ⟨l', e3, e4⟩ := Option.map_eq_some_iff.mp e
        cases e4
        exact ⟨r, d, e1, e2, e3⟩
      · cases e
    · cases e
  · cases h
theorem zfb {A : Around} {F₀ F : Addr → Prop} {s₀ s : Shared} {items : List D} {P : Nat → Value → Prop} {St : Nat → Heap → Prop} {fp : List Addr} {o : Obj} (ok : CxOk cx) (w₀ : Wd cx F₀ s₀) (st : Step cx F₀ s₀ F s)
    (W : ∀ A' : Around, A'.handled = none → Walks cx.prog cx.w A' s.heap.objs.size fp [s.heap.objs.size] items.length P St) (s0 : St 0 (s.heap.push o)) (deps : ∀ b ∈ fp, b = s.heap.objs.size ∨ F b)
    (item : ∀ i v, P i v → ∃ d, items[i]? = some d ∧ Rep cx.T F s.heap v d)
    (ty : ∀ i h, St i h → ∃ o T, h.get? s.heap.objs.size = some o ∧ o.cls = .type T ∧ ["enumerate", "zip", "dict_itemiterator", "dict_reverseitemiterator", "odict_iterator", "itertools.zip_longest", "itertools.pairwise"].contains T = false)
    (hl : items.length ≤ lim) (k : Nat) : Iter cx A F₀ s₀ items s.heap.objs.size F { s with heap := s.heap.push o, toks := k } fp [s.heap.objs.size] P St := by
  have stp := Step.push ok st.wd o k
  have fr := zbt s.heap
  refine ⟨st.trans stp, W, s0, fun b hb => ?_, fun b hb => by simpa using hb, fun b hb => (deps b hb).imp (fun e => by simp [e]) id, fun i v h => ?_, ty, hl⟩
  · have e : b = s.heap.objs.size := by simpa using hb
    subst e
    exact ⟨st.fresh (st.wd.newNotX fr) fr, st.wd.newNotF fr⟩
  · obtain ⟨d, e, r⟩ := item i v h
    exact ⟨d, e, stp.rep st.wd r⟩
theorem zmR {A : Around} (hh : A.handled = none) {F₀ F : Addr → Prop} {s₀ s : Shared} (ok : CxOk cx) (w₀ : Wd cx F₀ s₀) (st : Step cx F₀ s₀ F s) {v : Value} {d : D} (q : Rep cx.T F s.heap v d) {items : List D} (hi : itemsOf d = some items)
    {Q : Value → Shared → Prop} {E : Value → Shared → Prop} (hQ : ∀ I F' s' fp wr P St, Iter cx A F₀ s₀ items I F' s' fp wr P St → Q (.ref I) s') : wpAny (model cx.prog cx.w) A (pyIter v) Q E s := by
  cases q with
  | @list a vs n l f g z q =>
    cases hi
    have hne : a ≠ s.heap.objs.size := Nat.ne_of_lt (Heap.lt_size g)
    have el : items.length = vs.toArray.size := by rw [List.size_toArray]; exact q.length.symm
    refine wpAny_pyIter_list (zbn g) (hQ _ F _ [s.heap.objs.size, a] [s.heap.objs.size] (fun i v => vs.toArray[i]? = some v) (fun i h => h.IsListIter s.heap.objs.size a i ∧ h.IsList a vs.toArray) ?_)
    refine zfb (P := fun i v => vs.toArray[i]? = some v) ok w₀ st (fun A' hh => el ▸ Walks.list hh _ a hne vs.toArray) ⟨⟨_, Heap.get?_push_size _ rfl, rfl, rfl⟩, (zbn g).push _⟩ (fun b hb => ?_) (fun i v h => ?_) (fun i h hs => ?_) (by rw [← q.length]; exact z) s.toks
    · simp only [List.mem_cons, List.not_mem_nil, or_false] at hb
      rcases hb with rfl | rfl
      · exact .inl rfl
      · exact .inr f
    · rw [List.getElem?_toArray] at h
      exact q.getV h
    · obtain ⟨⟨o, g, c, _⟩, _⟩ := hs
      exact ⟨o, _, g, c, by decide⟩
  | @tup a vs n l f g z q =>
    cases hi
    have hne : a ≠ s.heap.objs.size := Nat.ne_of_lt (Heap.lt_size g)
    have el : items.length = vs.toArray.size := by rw [List.size_toArray]; exact q.length.symm
    have ht : s.heap.IsTuple a vs.toArray := ⟨_, g, rfl, n, rfl⟩
    refine wpAny_pyIter_tuple ht (hQ _ F _ [s.heap.objs.size, a] [s.heap.objs.size] (fun i v => vs.toArray[i]? = some v) (fun i h => h.IsTupleIter s.heap.objs.size a i ∧ h.IsTuple a vs.toArray) ?_)
    refine zfb (P := fun i v => vs.toArray[i]? = some v) ok w₀ st (fun A' hh => el ▸ Walks.tuple hh _ a hne vs.toArray) ⟨⟨_, Heap.get?_push_size _ rfl, rfl, rfl⟩, ht.push _⟩ (fun b hb => ?_) (fun i v h => ?_) (fun i h hs => ?_) (by rw [← q.length]; exact z) s.toks
    · simp only [List.mem_cons, List.not_mem_nil, or_false] at hb
      rcases hb with rfl | rfl
      · exact .inl rfl
      · exact .inr f
    · rw [List.getElem?_toArray] at h
      exact q.getV h
    · obtain ⟨⟨o, g, c, _⟩, _⟩ := hs
      exact ⟨o, _, g, c, by decide⟩
  | @str l t p z =>
    cases hi
    have el : (l.map fun c => D.str [c]).length = (PySem.Str.mk l.toArray).cps.size := by simp
    have item : ∀ i v, SignAt ⟨l.toArray⟩ i v → ∃ d, (l.map fun c => D.str [c])[i]? = some d ∧ Rep cx.T F s.heap v d := by
      rintro i v ⟨c, u, e, rfl⟩
      rw [show (PySem.Str.mk l.toArray).cps = l.toArray from rfl, List.getElem?_toArray] at e
      refine ⟨.str [c], by rw [List.getElem?_map, e]; rfl, .str (l := [c]) u (fun c' h => ?_) (by simp [lim])⟩
      simp only [List.mem_cons, List.not_mem_nil, or_false] at h
      subst h
      exact p _ (List.mem_of_getElem? e)
    have hz : (l.map fun c => D.str [c]).length ≤ lim := by simpa using z
    have deps : ∀ b ∈ [s.heap.objs.size], b = s.heap.objs.size ∨ F b := fun b hb => .inl (by simpa using hb)
    cases ha : (PySem.Str.mk l.toArray).cps.all (· < 128)
    · refine wpAny_pyIter_wide ha (hQ _ F _ _ _ _ _ (zfb ok w₀ st (fun A' hh => el ▸ Walks.strWide hh _ ⟨l.toArray⟩ t) ⟨_, Heap.get?_push_size _ rfl, rfl, rfl⟩ deps item (fun i h hs => ?_) hz s.toks))
      obtain ⟨o, g, c, _⟩ := hs
      exact ⟨o, _, g, c, by decide⟩
    · refine wpAny_pyIter_ascii ha (hQ _ F _ _ _ _ _ (zfb ok w₀ st (fun A' hh => el ▸ Walks.strAscii hh _ ⟨l.toArray⟩ t) ⟨_, Heap.get?_push_size _ rfl, rfl, rfl⟩ deps item (fun i h hs => ?_) hz s.toks))
      obtain ⟨o, g, c, _⟩ := hs
      exact ⟨o, _, g, c, by decide⟩
  | _ => cases hi
theorem zbk {e : Expr} {x : X} (h : Sound cx ε e x) : SoundI cx ε e (.seqI x) := by
  intro n cf A env F s ρ ad m cm H items hi Q E hQ
  obtain ⟨r, d, e1, e2, e3⟩ := evI_seq hi
  refine h.ev n cf A env F s ρ ad m cm H r e1 _ _ fun v F' s' st q => ?_
  obtain ⟨F'', st', _, q'⟩ := st.fz H.ok H.wd q e2
  exact zmR H.bud.hd H.ok H.wd st' q' e3 hQ
theorem zkQ {A : Around} (hh : A.handled = none) {F₀ F : Addr → Prop} {s₀ s : Shared} (ok : CxOk cx) (w₀ : Wd cx F₀ s₀) (st : Step cx F₀ s₀ F s) {r : Addr} {a b c : Int} {t u v : Tok} (hr : IsRange s.heap r a b c t u v) (hs : Builtin.Range.small a b c = true)
    {k : Nat} (hk : Builtin.Range.rangeSize a b c = (k : Int)) (hl : k ≤ lim)
    {Q : Value → Shared → Prop} {E : Value → Shared → Prop} (hQ : ∀ I F' s' fp wr P St, Iter cx A F₀ s₀ ((upTo k a c).map .int) I F' s' fp wr P St → Q (.ref I) s') : wpAny (model cx.prog cx.w) A (pyIter (.ref r)) Q E s := by
  have el : ((upTo k a c).map D.int).length = k := by simp [upTo]
  let P : Nat → Value → Prop := fun i v => i < k ∧ ∃ t, v = .int (a + i * c) t
  have W : ∀ A' : Around, A'.handled = none → Walks cx.prog cx.w A' s.heap.objs.size [s.heap.objs.size] [s.heap.objs.size] k P (fun i h => IsRangeIter h s.heap.objs.size (a + (i : Nat) * c) ((k : Int) - (i : Nat)) c) := fun A' hh => (Walks.range hh _ a c k).bound
  refine wpAny_pyIter_range hr hs (hQ _ F _ _ _ _ _ (zfb (P := P) ok w₀ st (by rw [el]; exact W) ?_ (fun b hb => .inl (by simpa using hb)) ?_ (fun i h hs => ⟨_, _, hs, rfl, by decide⟩) (by rw [el]; exact hl) s.toks))
  · have := Heap.get?_push_size s.heap (o := { cls := .type "range_iterator", data := .fields #[rawInt a, rawInt (Builtin.Range.rangeSize a b c), rawInt c] }) rfl
    show IsRangeIter _ _ _ _ _
    rw [hk] at this
    simpa [IsRangeIter, hk] using this
  · rintro i v ⟨hi, t, rfl⟩
    refine ⟨.int (a + i * c), ?_, .int _ t⟩
    rw [List.getElem?_map]
    unfold upTo
    rw [List.getElem?_map, List.getElem?_range hi]
    simp [Int.mul_comm]
theorem zef {i : Int} (h : small i = true) : -1000000000 ≤ i ∧ i ≤ 1000000000 := by
  unfold small at h
  simpa using h
theorem zgy {z : Int} (h : z ≤ 1000000) : z.toNat ≤ lim := by unfold lim; omega
theorem zjV (a b : Int) : (if a < b then b - a else 0) = ((b - a).toNat : Int) := by split <;> omega
theorem lo62 {i : Int} (h : -1000000000 ≤ i) : -(2 ^ 62) ≤ i := Int.le_trans (by decide) h
theorem hi62 {i : Int} (h : i ≤ 1000000000) : i < 2 ^ 62 := Int.lt_of_le_of_lt h (by decide)
inductive RangeI : List D → List D → Prop
  | one {i : Int} : -1000000000 ≤ i → i ≤ 1000000000 → i ≤ 1000000 → RangeI [.int i] (rangeL 0 i)
  | two {a i : Int} : -1000000000 ≤ a → a ≤ 1000000000 → -1000000000 ≤ i → i ≤ 1000000000 → i - a ≤ 1000000 → RangeI [.int a, .int i] (rangeL a i)
  | down {a i : Int} : -1000000000 ≤ a → a ≤ 1000000000 → -1000000000 ≤ i → i ≤ 1000000000 → a - i ≤ 1000000 → RangeI [.int a, .int i, .int (-1)] (rangeDown a i)
theorem zlq {ds l : List D} (hl : opRange ds = some l) : RangeI ds l := by
  rcases ds with _ | ⟨a0, t⟩
  · cases hl
  cases a0 <;> try (cases hl; done)
  rename_i a
  rcases t with _ | ⟨a1, t⟩
  · rename Int => i
    replace hl : (if (small i && decide (i ≤ 1000000)) = true then some (rangeL 0 i) else none) = some l := hl
    split at hl
    · rename_i hi
      cases hl
      obtain ⟨h1, h2⟩ := Bool.and_eq_true _ _ ▸ hi
      obtain ⟨h3, h4⟩ := zef h1
      exact .one h3 h4 (of_decide_eq_true h2)
    · cases hl
  cases a1 <;> try (cases hl; done)
  rename_i i
  rcases t with _ | ⟨a2, t⟩
  · replace hl : (if (small a && small i && decide (i - a ≤ 1000000)) = true then some (rangeL a i) else none) = some l := hl
    split at hl
    · rename_i hi
      cases hl
      obtain ⟨h12, h5⟩ := Bool.and_eq_true _ _ ▸ hi
      obtain ⟨h1, h2⟩ := Bool.and_eq_true _ _ ▸ h12
      obtain ⟨h3, h4⟩ := zef h1
      obtain ⟨h6, h7⟩ := zef h2
      exact .two h3 h4 h6 h7 (of_decide_eq_true h5)
    · cases hl
  cases a2 <;> try (cases hl; done)
  rename_i c
  rcases t with _ | ⟨a3, t⟩ <;> try (cases hl; done)
  replace hl : (if c = -1 ∧ small a ∧ small i ∧ a - i ≤ 1000000 then some (rangeDown a i) else none) = some l := hl
  split at hl
  · rename_i hi
    cases hl
    obtain ⟨rfl, h1, h2, h5⟩ := hi
    obtain ⟨h3, h4⟩ := zef h1
    obtain ⟨h6, h7⟩ := zef h2
    exact .down h3 h4 h6 h7 h5
  · cases hl
theorem zhz {A : Around} {F₀ F : Addr → Prop} {s₀ s : Shared} (ok : CxOk cx) (st : Step cx F₀ s₀ F s) {vs : List Value} {ds : List D} (q : BRepL cx F s.heap vs ds) {l : List D} (hl : opRange ds = some l)
    {Q : Value → Shared → Prop} {E : Value → Shared → Prop} (hQ : ∀ (r : Addr) (a b c : Int) (t u v : Tok) (k : Nat) (s' : Shared), Step cx F₀ s₀ F s' → IsRange s'.heap r a b c t u v → Builtin.Range.small a b c = true → Builtin.Range.rangeSize a b c = (k : Int) → k ≤ lim → l = (upTo k a c).map .int → Q (.ref r) s') :
    wpAny (model cx.prog cx.w) A (call (.type "range") vs) Q E s := by
  cases zlq hl with
  | @one i h3 h4 h2 =>
    obtain ⟨v, rfl, q1⟩ := q.one
    obtain ⟨t, rfl⟩ := q1.int_inv
    exact call_range_1 (hQ _ 0 i 1 _ _ _ (i - 0).toNat _ (st.trans (Step.push ok st.wd ({ cls := .type "range", data := .fields #[.int 0 s.toks, .int i t, .int 1 (s.toks + 1)] } : Obj) (s.toks + 1 + 1))) (IsRange.new s.heap 0 i 1 _ _ _) (small_one (by decide) (by decide) (lo62 h3) (hi62 h4)) (by rw [rangeSize_one, zjV]) (zgy (by rw [Int.sub_zero]; exact h2)) rfl)
  | @two a i h3 h4 h6 h7 h5 =>
    obtain ⟨v, v', rfl, q1, q2⟩ := q.two
    obtain ⟨t, rfl⟩ := q1.int_inv
    obtain ⟨u, rfl⟩ := q2.int_inv
    exact call_range_2 (hQ _ a i 1 _ _ _ (i - a).toNat _ (st.trans (Step.push ok st.wd ({ cls := .type "range", data := .fields #[.int a t, .int i u, .int 1 s.toks] } : Obj) (s.toks + 1))) (IsRange.new s.heap a i 1 _ _ _) (small_one (lo62 h3) (hi62 h4) (lo62 h6) (hi62 h7)) (by rw [rangeSize_one, zjV]) (zgy h5) rfl)
  | @down a i h3 h4 h6 h7 h5 =>
    cases q with
    | cons q1 q => cases q with | cons q2 q => cases q with | cons q3 q =>
    cases q
    obtain ⟨t, rfl⟩ := q1.int_inv
    obtain ⟨u, rfl⟩ := q2.int_inv
    obtain ⟨x, rfl⟩ := q3.int_inv
    exact call_range_3 (by decide) (hQ _ a i (-1) _ _ _ (a - i).toNat _ (st.trans (Step.push ok st.wd ({ cls := .type "range", data := .fields #[.int a t, .int i u, .int (-1) x] } : Obj) s.toks)) (IsRange.new s.heap a i (-1) _ _ _) (PySem.W.small_down (lo62 h3) (hi62 h4) (lo62 h6) (hi62 h7)) (PySem.W.rangeSize_downNat a i) (zgy h5) rfl) (Or.inl (PyProof.noPylong_small (by decide)))
theorem zk1 {A : Around} {n : Nat} (hb : BudE n A) {F₀ F : Addr → Prop} {s₀ s : Shared} (ok : CxOk cx) (w₀ : Wd cx F₀ s₀) (st : Step cx F₀ s₀ F s) {vs : List Value} {ds : List D} (q : BRepL cx F s.heap vs ds) {l : List D} (hl : opRange ds = some l)
    {Q : Value → Shared → Prop} {E : Value → Shared → Prop} (hQ : ∀ I F' s' fp wr P St, Iter cx A F₀ s₀ l I F' s' fp wr P St → Q (.ref I) s') :
    wpAny (model cx.prog cx.w) A (call (.type "range") vs) (fun v s₁ => wpAny (model cx.prog cx.w) A (pyIter v) Q E s₁) E s :=
  zhz ok st q hl fun r a b c t u v k s' st' hr hs hk hl' e => zkQ hb.hd ok w₀ st' hr hs hk hl' (e ▸ hQ)
theorem zl6 {cf : Nat → List D → Option D} {x : X} {ρ : List Slot} {items : List D} (h : evI cf (.rangeI x) ρ = some items) : ∃ rs, ev cf x ρ = some rs ∧ opRange (rs.map R.ds) = some items := by
  unfold evI at h
  split at h
  · rename_i l e
    cases h
    replace e := (zaA _).symm.trans e
    split at e
    · rename_i rs e1
      obtain ⟨l', e3, e4⟩ := Option.map_eq_some_iff.mp e
      cases e4
      exact ⟨rs, e1, e3⟩
    · cases e
  · cases h
theorem zbZ {p pos : Pos} {es : List Expr} {x : X} (hk : ε.kinds.lookup ("range" : Str) = some .globalImplicit) (hg : cx.mg ("range" : Str) = none) (h : SoundL cx ε es x false) : SoundI cx ε (.Call (.Name "range" p) es [] pos) (.rangeI x) := by
  intro n cf A env F s ρ ad m cm H items hi Q E hQ
  obtain ⟨rs, e1, e2⟩ := zl6 hi
  rw [zbo (by intro _ _ _ e; cases e)]
  refine wpAny_bind (zct H hk hg (by decide) (v := .type "range") (by rfl) (by decide) ?_)
  refine PyProof.Rows.callWith_type (zbP h) (zb2 h H e1 fun vs F' s' st q => ?_)
  exact zk1 H.bud H.ok H.wd st q.brep e2 hQ
end
end Mine
end MpPx
section MpQx
open PySem PySem.Calls PyProof.Rows PySem.Builtin.Str
namespace Mine
section
variable {cx : XCx} {ε : Sc} {n : Nat} {cf : Nat → List D → Option D} {A : Around} {env : Env} {F F₀ F' : Addr → Prop} {s s₀ s' : Shared} {ρ ρ' : List Slot} {ad ad' : Nat → Addr} {m cm m' cm' : Str → Option Value}
theorem SlotRep.own_inv {h : Heap} {i : Nat} {ov : Option Value} {l : List D} (q : SlotRep cx F h ad i ov (.own l)) : ov = some (.ref (ad i)) ∧ ∃ vs k, h.get? (ad i) = some (lobj vs.toArray k) ∧ vs.length ≤ lim ∧ RepL cx.T F h vs l := by
  cases q with
  | own _ _ g z q => exact ⟨rfl, _, _, g, z, q⟩
inductive OwnNow (cx : XCx) (F : Addr → Prop) (h : Heap) (a : Addr) (l : List D) : Prop
  | mk (vs : List Value) (k : Nat) (g : h.get? a = some (lobj vs.toArray k)) (z : vs.length ≤ lim) (q : RepL cx.T F h vs l)
theorem zfu (H : HereS cx ε n cf A env F s ρ ad m cm) {x : Str} {i : Nat} (hx : ε.vars.lookup x = some i) {l : List D} (hi : ownAt ρ i = some l) : OwnNow cx F s.heap (ad i) l := by
  have hs := (zgk hi).1
  rcases H.frm.en.vars x i hx with ⟨_, q⟩ | ⟨_, _, q⟩ <;> rw [hs] at q <;> exact (let ⟨vs, k, g, z, q⟩ := q.own_inv.2; ⟨vs, k, g, z, q⟩)
theorem zgm (H : HereS cx ε n cf A env F s ρ ad m cm) {x : Str} {i : Nat} {p : Pos} (hx : ε.vars.lookup x = some i) (hn : (x == ("__classdict__" : Str)) = false) (hd : (x == ("__debug__" : Str)) = false) {l : List D} (hi : ownAt ρ i = some l)
    {Q : Value → Shared → Prop} {E : Value → Shared → Prop} (h : Q (.ref (ad i)) s) : wpAny (model cx.prog cx.w) A (eval (.Name x p) env) Q E s := by
  have hs := (zgk hi).1
  refine wpAny_Name (zgl H.here hx hn (fun v q => ?_) (by rw [hs]; intro e; cases e)) hd
  rw [hs] at q
  cases q.own_inv.1
  exact h
theorem zdL (H₀ : HereS cx ε n cf A env F₀ s₀ ρ ad m cm) (st : Step cx F₀ s₀ F s) {x : Str} {i : Nat} (hx : ε.vars.lookup x = some i) {l : List D} (hi : ownAt ρ i = some l) {h' : Heap} (sb : Heap.SameBut (ad i) s.heap h') {vs' : List Value} {k' : Nat} {l' : List D}
    (hl' : h'.get? (ad i) = some (lobj vs'.toArray k')) (z : vs'.length ≤ lim) (q' : RepL cx.T F s.heap vs' l') (k : Nat) :
    StepS cx env F₀ s₀ ρ ad F { s with heap := h', toks := k } (ρ.set i (.own l')) ad ∧ Frm cx ε env F { s with heap := h', toks := k } (ρ.set i (.own l')) ad m cm := by
  have H := H₀.step st
  have f := H.frm
  have hs := (zgk hi).1
  have hb : Mut env ρ ad (ad i) := .inr (.inr ⟨i, l, hs, rfl⟩)
  obtain ⟨nf, nx, _, nl, nc⟩ := f.own i l hs
  obtain ⟨w', keep⟩ := zjt H hb sb k
  have q2 : RepL cx.T F h' vs' l' := q'.mono (fun _ h => h) keep
  refine ⟨zgI H₀ st hb sb k (fun _ _ => .inl hb) (fun _ _ => rfl), Frm.put H hb sb k (f.en.ns.sameBut sb (Ne.symm nl)) (fun n c hc => ?_) (fun _ _ _ _ => ⟨rfl, rfl⟩) (fun y hy => ?_) (fun _ _ => rfl) (.inl rfl) (fun j l2 hj hne e => hne (f.oinj j i _ _ hj hs e)) (fun _ _ => ?_)⟩
  · obtain ⟨o, g, d⟩ := f.en.cells n c hc
    exact ⟨o, (sb.2 c fun e => nc n (e ▸ hc)).trans g, d⟩
  · have key : ∀ ov, SlotRep cx F s.heap ad i ov (slotAt ρ i) → SlotRep cx F h' ad i ov (.own l') := by
      intro ov q
      rw [hs] at q
      rw [q.own_inv.1]
      exact .own nf nx hl' z q2
    refine ⟨fun hk => ?_, fun hk => ?_⟩
    · rcases f.en.vars y i hy with ⟨_, q⟩ | ⟨e, _⟩
      · exact key _ q
      · rw [hk] at e; rcases e with e | e <;> cases e
    · rcases f.en.vars y i hy with ⟨e, _⟩ | ⟨_, _, q⟩
      · exact absurd e hk
      · exact key _ q
  · exact ⟨nf, nx, ⟨_, _, hl'⟩, nl, nc, fun j l2 hj hs2 e => hj (f.oinj j i _ _ hs2 hs e)⟩
theorem zgj {h : Heap} {a : Addr} {vs : List Value} {k : Nat} (g : h.get? a = some (lobj vs.toArray k)) (f : Array Value → Array Value) (ws : List Value) (hf : f vs.toArray = ws.toArray) :
    ∃ k', (h.update a (Obj.mapSeq f)).get? a = some (lobj ws.toArray k') := by
  have := IsL.update (n := k) (items := vs.toArray) (show IsL h a vs.toArray k from g) f
  rw [hf] at this
  exact ⟨_, this⟩
theorem zl9 (vs : List Value) (j : Nat) : vs.toArray.eraseIdxIfInBounds j = (vs.eraseIdx j).toArray := by
  unfold Array.eraseIdxIfInBounds
  split
  · rw [List.eraseIdx_toArray]
  · rename_i h
    rw [List.size_toArray] at h
    rw [List.eraseIdx_of_length_le (by omega)]
theorem exprS {e : Expr} {pos : Pos} {Q : Flow → Shared → Prop} {E : Value → Shared → Prop} (hi : env.scope.kind = .function) (hs : swapsWith e none pos.line env = pure false)
    (h : wpAny (model cx.prog cx.w) A (eval e env) (fun v s' => (∀ a, v ≠ .ref a) ∧ Q .next s') E s) : wpAny (model cx.prog cx.w) A (exec (.Expr e pos) env) Q E s := by
  refine wpAny_Expr (wpAny_mono h (fun v s' h' => ?_) fun _ _ e => e) ?_ hs
  · cases v <;> first | exact h'.2 | exact absurd rfl (h'.1 _)
  · unfold interactive; rw [hi]; rfl
end
section
variable {cx : XCx} {ε : Sc}
theorem zki {cf : Nat → List D → Option D} {y : X} {ρ : List Slot} {r : R} (h : ev cf y ρ = some [r]) : ev cf (.cons y .nil) ρ = some [r] := by
  rw [zaT, h]; rfl
theorem arg1 {n cf A env F s ρ ad m cm} (H : Here cx ε n cf A env F s ρ ad m cm) {e : Expr} {y : X} {pos : Pos} {f : Value} (h : Sound cx ε e y) (hst : starred e = false) {d : D} (hd : ev1 cf y ρ = some d) {Q : Args → Shared → Prop} {E : Value → Shared → Prop}
    (hQ : ∀ v F' s', Step cx F s F' s' → Rep cx.T F' s'.heap v d → Q ⟨[v], []⟩ s') : wpAny (model cx.prog cx.w) A (evalArgs f true (backTo pos (starEach [e] env)) []) Q E s := by
  obtain ⟨r, e1, e2⟩ := zjI hd
  refine zb2 (SoundL.cons h hst .nil) H (zki e1) fun vs F' s' st q => ?_
  obtain ⟨F'', st', _, q'⟩ := zke H.ok H.wd st (fun _ h => h) q (ds := [d]) (by unfold fzAll; rw [e2]; rfl)
  cases q' with
  | cons a b => cases b; exact hQ _ F'' s' st' a
theorem zb7 {x : Str} {i : Nat} {e : Expr} {y : X} {p apos pos pos' : Pos} (hx : ε.vars.lookup x = some i) (hn : (x == ("__classdict__" : Str)) = false) (hd : (x == ("__debug__" : Str)) = false) (hl : (apos.endLine == pos.line) = true)
    (h : Sound cx ε e y) (hst : starred e = false) : SoundS cx ε (.Expr (.Call (.Attribute (.Name x p) "append" apos) [e] [] pos) pos') (.append i y) := by
  intro n cf A env F s ρ ad m cm H ρ' o he Q E hQ
  replace he := (zhH cf).symm.trans he
  split at he
  · rename_i d l e1 e2
    split at he
    · rename_i hz
      cases he
      refine exprS H.frm.en.kind rfl ?_
      refine zeh rfl hl (by simp) (by rw [zbP (SoundL.cons h hst .nil)]) ?_
      refine zgm H hx hn hd e2 ?_
      obtain ⟨vs, k, g, _, _⟩ := zfu H hx e2
      refine Calls.getMethod_list_append g rfl rfl ?_
      refine Calls.callWith_builtin (zbP (SoundL.cons h hst .nil)) (arg1 H.here h hst e1 fun v F' s' st q => ?_)
      obtain ⟨vs, k, g, z, qs⟩ := zfu (H.step st) hx e2
      show wpAny _ _ (call (.builtin "list.append") [.ref (ad i), v]) _ _ s'
      have hlen : vs.length = l.length := qs.length
      refine call_meets PySem.F.slot_list_append ⟨_, g, rfl⟩ PySem.F.entry_list_append (PySem.F.args_list_append_2 _ _) (list_append (ad i) vs.toArray k v (by rw [List.size_toArray]; exact zbm z)) ⟨g, ?_⟩
      refine ⟨(fun a e => nomatch e), ?_⟩
      obtain ⟨k', g'⟩ := zgj g (fun x => x.push v) (vs ++ [v]) (by simp)
      obtain ⟨x1, f1⟩ := zdL H st hx e2 (Heap.SameBut.update ..) g' (by simp; omega) (qs.append (.cons q .nil)) s'.toks
      exact hQ .next F' _ ad m cm x1 f1 .next
    · cases he
  · cases he
theorem zlu {i : Int} {n p : Nat} (h : place i n = some p) : seqIndex? i n = some p ∧ p < n := by
  unfold place at h
  unfold seqIndex?
  split at h
  · split at h
    · cases h
      rename_i h1 h2
      have : ¬ i < 0 := by omega
      simp [this, h1, h2]
      skip
    · cases h
  · split at h
    · cases h
      rename_i h1 h2
      have : i < 0 := by omega
      simp [this, h2]
      omega
    · cases h
theorem zkz {i : Int} (h : small i = true) : Builtin.List.listFitsIndex i = true := by
  obtain ⟨h1, h2⟩ := zef h
  unfold Builtin.List.listFitsIndex
  simp only [Bool.and_eq_true, decide_eq_true_eq]
  omega
theorem zg8 {x : Str} {i : Nat} {ek e : Expr} {k y : X} {p pos pos' : Pos} (hx : ε.vars.lookup x = some i) (hn : (x == ("__classdict__" : Str)) = false) (hd : (x == ("__debug__" : Str)) = false)
    (hk : Sound cx ε ek k) (h : Sound cx ε e y) (hs : ∀ env, swapsWith e (some (.Subscript (.Name x p) ek pos')) pos.line env = pure false) : SoundS cx ε (.Assign [.Subscript (.Name x p) ek pos'] e pos) (.setItem i k y) := by
  intro n cf A env F s ρ ad m cm H ρ' o he Q E hQ
  replace he := (zgW cf).symm.trans he
  split at he
  · rename_i d j l e1 e2 e3
    split at he
    · rename_i hsm
      split at he
      · rename_i pl hp
        cases he
        refine wpAny_Assign_Subscript (zeb H h e1 fun v F1 s1 st1 q => ?_) (hs env)
        have H1 := H.step st1
        refine zgm H1 hx hn hd e3 ?_
        refine zeb H1 hk e2 fun kv F2 s2 st2 qk => ?_
        have H2 := H1.step st2
        obtain ⟨vs, kk, g, z, qs⟩ := zfu H2 hx e3
        have q2 := st2.rep st1.wd q
        cases qk with
        | int _ t =>
        have hlen : vs.length = l.length := qs.length
        obtain ⟨h1, h2⟩ := zlu hp
        refine zji (zbn g) g (zkz hsm) (by rw [List.size_toArray, hlen]; exact h1) (by rw [List.size_toArray, hlen]; exact h2) ?_
        obtain ⟨k', g'⟩ := zgj g (fun xs => xs.setIfInBounds pl v) (vs.set pl v) (by simp)
        obtain ⟨x1, f1⟩ := zdL H (st1.trans st2) hx e3 (Heap.SameBut.update ..) g' (by simp; omega) (qs.set pl q2) s2.toks
        exact hQ .next F2 _ ad m cm x1 f1 .next
      · cases he
    · cases he
  · cases he
theorem zha {x : Str} {i : Nat} {ek : Expr} {k : X} {p pos pos' : Pos} (hx : ε.vars.lookup x = some i) (hn : (x == ("__classdict__" : Str)) = false) (hd : (x == ("__debug__" : Str)) = false)
    (hk : Sound cx ε ek k) : SoundS cx ε (.Delete [.Subscript (.Name x p) ek pos'] pos) (.delItem i k) := by
  intro n cf A env F s ρ ad m cm H ρ' o he Q E hQ
  replace he := (zgY cf).symm.trans he
  split at he
  · rename_i j l e2 e3
    split at he
    · rename_i hp
      cases he
      refine wpAny_Delete (wpAny_deleteEach_cons ?_)
      show wpAny _ _ (do
        let ov ← eval (.Name x p) env
        let iv ← holding [ov] (eval ek env)
        standAt pos'
        holding [ov, iv] (delItem ov iv)
        release [ov, iv] []) _ _ s
      refine wpAny_bind (zgm H hx hn hd e3 ?_)
      refine wpAny_bind (wpAny_holding (zeb H hk e2 fun kv F2 s2 st2 qk => ?_))
      have H2 := H.step st2
      obtain ⟨vs, kk, g, z, qs⟩ := zfu H2 hx e3
      cases qk with
      | int _ t =>
      have hlen : vs.length = l.length := qs.length
      have hle : vs.length ≤ lim := z
      refine wpAny_bind (wpAny_standAt (wpAny_bind (wpAny_holding ?_)))
      refine P.delItem_list (n := kk) (k := j.toNat) g (by unfold Builtin.List.listFitsIndex; simp only [Bool.and_eq_true, decide_eq_true_eq]; unfold lim at hle; omega) (by
        rw [List.size_toArray, hlen]
        unfold seqIndex?
        have h0 : ¬ j < 0 := by omega
        simp only [if_neg h0]
        rw [if_pos (by simp only [Bool.and_eq_true, decide_eq_true_eq]; exact hp)]) ?_ (by rw [List.size_toArray]; exact zbm z)
      obtain ⟨k', g'⟩ := zgj g (fun xs => xs.eraseIdxIfInBounds j.toNat) (vs.eraseIdx j.toNat) (zl9 _ _)
      obtain ⟨x1, f1⟩ := zdL H st2 hx e3 (Heap.SameBut.update ..) g' (Nat.le_trans (List.length_eraseIdx_le ..) z) (qs.eraseIdx j.toNat) s2.toks
      exact wpAny_release (wpAny_deleteEach_nil (hQ .next F2 _ ad m cm x1 f1 .next))
    · cases he
  · cases he
end
end Mine
end MpQx
section MpRx
open PySem PySem.Calls PyProof.Rows PySem.Builtin.Str
namespace Mine
section
variable {cx : XCx} {ε : Sc}
theorem ziC {x y : Str} {i j : Nat} {p p' apos pos : Pos} (hx : ε.vars.lookup x = some i) (hf : ε.kinds.lookup x ≠ some .free) (hy : ε.vars.lookup y = some j) (hn : (y == ("__classdict__" : Str)) = false) (hd : (y == ("__debug__" : Str)) = false) :
    SoundS cx ε (.Assign [.Name x p'] (.Attribute (.Name y p) "append" apos) pos) (.alias i j) := by
  intro n cf A env F s ρ ad m cm H ρ' o he Q E hQ
  replace he := (ziT cf).symm.trans he
  split at he
  · rename_i l e1
    cases he
    refine wpAny_Assign_Name ?_ rfl
    rw [arm_eval_Attribute]
    show wpAny _ _ (do
      let o ← attributeBase (.Name y p) "append" env (eval (.Name y p) env)
      standAt apos.atName
      let r ← holding [o] (getAttr o "append" true)
      letTemporaryGo (.Name y p) o r
      pure r) _ _ _
    rw [zfM rfl]
    refine wpAny_bind (zgm H hy hn hd e1 ?_)
    obtain ⟨vs, k, g, z, qs⟩ := zfu H hy e1
    refine wpAny_bind (wpAny_standAt (wpAny_bind (wpAny_holding (zhk g ?_))))
    refine wpAny_bind (wpAny_pure (wpAny_pure ?_))
    have st := Step.push H.ok H.wd (appObj (ad j)) (s.toks + 1)
    have g' : (s.heap.push (appObj (ad j))).get? s.heap.objs.size = some (appObj (ad j)) := Heap.get?_push_size _ rfl
    have st' := st.freeze H.ok H.wd (zbt _) g'
    refine zgC H st' hx hf (sl := .app j) (ad' := ad) (fun _ _ => rfl) (.inl rfl) (fun h' hk => .app (.inr rfl) (hk _ _ (.inl (.inr rfl)) g') rfl) (fun _ e => nomatch e) fun s'' m' cm' x f => hQ .next _ s'' ad m' cm' x f .next
  · cases he
theorem zbd {x y : Str} {i j : Nat} {e : Expr} {z : X} {p pos pos' : Pos} (hx : ε.vars.lookup x = some i) (hy : ε.vars.lookup y = some j) (hn : (x == ("__classdict__" : Str)) = false) (hd : (x == ("__debug__" : Str)) = false)
    (h : Sound cx ε e z) (hst : starred e = false) : SoundS cx ε (.Expr (.Call (.Name x p) [e] [] pos) pos') (.appendVia i j z) := by
  intro n cf A env F s ρ ad m cm H ρ' o he Q E hQ
  replace he := (zff cf).symm.trans he
  split at he
  · rename_i j' e0
    split at he
    · rename_i ej
      subst ej
      split at he
      · rename_i d l e1 e2
        split at he
        · rename_i hz
          cases he
          have hs : slotAt ρ i = .app j' := by unfold slotAt; simp [List.getD, e0]
          refine exprS H.frm.en.kind rfl ?_
          rw [zbo (by intro _ _ _ e; cases e)]
          refine wpAny_bind (wpAny_Name (zgl H.here hx hn (fun v q => ?_) (by rw [hs]; intro e; cases e)) hd)
          rw [hs] at q
          cases q with
          | @app b o _ fb g eo =>
          subst eo
          refine zhm (l := ad j') (zbP (SoundL.cons h hst .nil)) (arg1 H.here h hst e1 fun v F' s' st q => ?_)
          have g' := st.keep _ _ g (H.wd.nx _ fb)
          refine ⟨g', ?_⟩
          obtain ⟨vs, k, gl, z, qs⟩ := zfu (H.step st) hy e2
          have hlen : vs.length = l.length := qs.length
          refine wpAny_call (zk3 g' gl (zjP gl (by rw [List.size_toArray]; exact zbm z) ?_))
          refine ⟨(fun a e => nomatch e), ?_⟩
          obtain ⟨k', gk⟩ := zgj gl (fun x => x.push v) (vs ++ [v]) (by simp)
          obtain ⟨x1, f1⟩ := zdL H st hy e2 (Heap.SameBut.update ..) gk (by simp; omega) (qs.append (.cons q .nil)) s'.toks
          exact hQ .next F' _ ad m cm x1 f1 .next
        · cases he
      · cases he
    · cases he
  · cases he
theorem zhw {x : Str} {i : Nat} {e : Expr} {z : X} {p pos : Pos} (hx : ε.vars.lookup x = some i) (hf : ε.kinds.lookup x ≠ some .free) (hn : (x == ("__classdict__" : Str)) = false) (h : Sound cx ε e z) :
    SoundS cx ε (.AugAssign (.Name x p) .Add e pos) (.aug i z) := by
  intro n cf A env F s ρ ad m cm H ρ' o he Q E hQ
  replace he := (zl4 cf).symm.trans he
  split at he
  · rename_i a b e0 e1
    split at he
    · rename_i hz
      cases he
      have hs : slotAt ρ i = .val (.str a) := by unfold slotAt; simp [List.getD, e0]
      refine wpAny_AugAssign_Name (zgl H.here hx hn (fun v q => ?_) (by rw [hs]; intro e; cases e))
      rw [hs] at q
      cases q with
      | val q =>
      cases q with
      | str t pa za =>
      refine zeb H h e1 fun v F' s' st q => ?_
      cases q with
      | str u pb zb =>
      refine PyProof.Rows.iadd_str (fun t' tk => ?_) (by
        show a.toArray.size + b.toArray.size ≤ sizeLine
        rw [List.size_toArray, List.size_toArray]; exact zbm hz)
      have e : (PySem.Str.mk a.toArray ++ PySem.Str.mk b.toArray) = PySem.Str.mk (a ++ b).toArray := by
        show PySem.Str.mk (a.toArray ++ b.toArray) = _
        simp
      rw [e]
      have st2 := st.toks tk
      have r : Rep cx.T F' s'.heap (.str ⟨(a ++ b).toArray⟩ t') (.str (a ++ b)) := .str _ (fun c hc => (List.mem_append.mp hc).elim (pa c) (pb c)) (by rw [List.length_append]; exact hz)
      exact zd4 H st2 hx hf r fun s'' m' cm' x f => hQ .next F' s'' ad m' cm' x f .next
    · cases he
  · cases he
end
end Mine
end MpRx
section MpSx
open PySem PySem.Calls PyProof.Rows PySem.Builtin.Str
namespace Mine
inductive Stores (cx : XCx) (ε : Sc) (A : Around) (env : Env) : List (Value → Sem Unit) → List Nat → Prop
  | nil : Stores cx ε A env [] []
  | cons {f : Value → Sem Unit} {fs : List (Value → Sem Unit)} {x : Str} {i : Nat} {is : List Nat} : ε.vars.lookup x = some i → ε.kinds.lookup x ≠ some .free →
      (∀ (v : Value) (Q : Unit → Shared → Prop) (E : Value → Shared → Prop) (s : Shared), wpAny (model cx.prog cx.w) A (storeName env x v) Q E s → wpAny (model cx.prog cx.w) A (f v) Q E s) → Stores cx ε A env fs is → Stores cx ε A env (f :: fs) (i :: is)
section
variable {cx : XCx} {ε : Sc}
theorem Stores.run {n cf A env} {fs : List (Value → Sem Unit)} {is : List Nat} (S : Stores cx ε A env fs is) : ∀ {F s ρ ad m cm}, HereS cx ε n cf A env F s ρ ad m cm → ∀ {vs : List Value} {ds : List D}, RepL cx.T F s.heap vs ds → ds.length = is.length → ∀ {Q : Unit → Shared → Prop} {E : Value → Shared → Prop},
    (∀ F' s' m' cm', StepS cx env F s ρ ad F' s' (setAll ρ is ds) ad → Frm cx ε env F' s' (setAll ρ is ds) ad m' cm' → Q () s') → wpAny (model cx.prog cx.w) A (assignInOrder fs vs) Q E s := by
  induction S with
  | nil =>
    intro F s ρ ad m cm H vs ds q hl Q E hQ
    cases ds with
    | nil => cases q; exact wpAny_pure (hQ F s m cm (StepS.refl H.wd) H.frm)
    | cons _ _ => cases hl
  | @cons f fs x i is hx hf hs S ih =>
    intro F s ρ ad m cm H vs ds q hl Q E hQ
    cases ds with
    | nil => cases hl
    | cons d ds =>
      cases q with
      | @cons v vs _ _ a b =>
      show wpAny _ _ (do holding vs (f v); assignInOrder fs vs) Q E s
      refine wpAny_bind (wpAny_holding (hs v _ _ _ (zd4 H (Step.refl H.wd) hx hf a fun s' m' cm' x1 f1 => ?_)))
      have H1 := H.stepS x1 f1
      exact ih H1 (x1.repL H b) (by simpa using hl) fun F2 s2 m2 cm2 x2 f2 => hQ F2 s2 m2 cm2 (x1.trans x2) f2
theorem ziq {n cf A env F s ρ ad m cm} (H : HereS cx ε n cf A env F s ρ ad m cm) {a : Addr} {vs : List Value} (ht : s.heap.IsTuple a vs.toArray) {ds : List D} (q : RepL cx.T F s.heap vs ds) {k : Nat} (hk : ds.length = k) {Q : List Value → Shared → Prop} {E : Value → Shared → Prop}
    (hQ : ∀ vs s', Step cx F s F s' → RepL cx.T F s'.heap vs ds → Q vs s') : wpAny (model cx.prog cx.w) A (unpackItems (.ref a) k none) Q E s := by
  have hk' : k = vs.toArray.size := by rw [List.size_toArray, q.length, hk]
  rw [hk']
  refine wpAny_unpackItems_tuple H.bud.hd ht fun h' he => ?_
  have st : Step cx F s F { s with heap := h' } := Step.grown H.ok H.wd s.toks fun b o e => he b o (Nat.ne_of_lt (Heap.lt_size e)) e
  refine hQ _ _ st ?_
  have := st.repL H.wd q
  simpa using this
theorem ziv {n cf A env F s ρ ad m cm} (H : HereS cx ε n cf A env F s ρ ad m cm) {elts : List Expr} {k : Nat} {pos : Pos} {a : Addr} {vs : List Value} (ht : s.heap.IsTuple a vs.toArray) {ds : List D} (q : RepL cx.T F s.heap vs ds) {is : List Nat} (hl : ds.length = is.length)
    (hlen : (assignEach elts env).length = is.length) (hst : (assignEach elts env).findIdx? (·.1) = none) (S : Stores cx ε A env ((assignEach elts env).map (·.2)) is) {Q : Unit → Shared → Prop} {E : Value → Shared → Prop}
    (hQ : ∀ F' s' m' cm', StepS cx env F s ρ ad F' s' (setAll ρ is ds) ad → Frm cx ε env F' s' (setAll ρ is ds) ad m' cm' → Q () s') : wpAny (model cx.prog cx.w) A (assign (.Tuple elts k pos) env (.ref a)) Q E s := by
  rw [arm_assign_Tuple]
  refine wpAny_bind (wpAny_standAt ?_)
  unfold unpack
  rw [hlen, hst]
  refine wpAny_bind (wpAny_holding (ziq H ht q hl fun vs s' st q' => ?_))
  have H1 := H.step st
  exact S.run H1 q' hl fun F2 s2 m2 cm2 x2 f2 => hQ F2 s2 m2 cm2 ((StepS.ofStep st).trans x2) f2
theorem zm4 {T : Nat → Addr} {F : Addr → Prop} {h : Heap} {v : Value} {ds : List D} (q : Rep T F h v (.tup ds)) : ∃ a vs, v = .ref a ∧ h.IsTuple a vs.toArray ∧ RepL T F h vs ds := by
  cases q with
  | tup f g z q => exact ⟨_, _, rfl, ⟨_, g, rfl, _, rfl⟩, q⟩
theorem zkp {n cf A env F s ρ ad m cm} (H : HereS cx ε n cf A env F s ρ ad m cm) {v : Value} {ds : List D} (q : Rep cx.T F s.heap v (.tup ds)) {k : Nat} (hk : ds.length = k) {Q : List Value → Shared → Prop} {E : Value → Shared → Prop}
    (hQ : ∀ vs s', Step cx F s F s' → RepL cx.T F s'.heap vs ds → Q vs s') : wpAny (model cx.prog cx.w) A (unpackItems v k none) Q E s := by
  obtain ⟨a, vs, rfl, ht, q'⟩ := zm4 q
  exact ziq H ht q' hk hQ
theorem zhs {n cf A env F s ρ ad m cm} (H : HereS cx ε n cf A env F s ρ ad m cm) {elts : List Expr} {k : Nat} {pos : Pos} {v : Value} {ds : List D} (q : Rep cx.T F s.heap v (.tup ds)) {is : List Nat} (hl : ds.length = is.length)
    (hlen : (assignEach elts env).length = is.length) (hst : (assignEach elts env).findIdx? (·.1) = none) (S : Stores cx ε A env ((assignEach elts env).map (·.2)) is) {Q : Unit → Shared → Prop} {E : Value → Shared → Prop}
    (hQ : ∀ F' s' m' cm', StepS cx env F s ρ ad F' s' (setAll ρ is ds) ad → Frm cx ε env F' s' (setAll ρ is ds) ad m' cm' → Q () s') : wpAny (model cx.prog cx.w) A (assign (.Tuple elts k pos) env v) Q E s := by
  obtain ⟨a, vs, rfl, ht, q'⟩ := zm4 q
  exact ziv H ht q' hl hlen hst S hQ
theorem zcB {A : Around} {env : Env} {x : Str} {p : Pos} : ∀ (v : Value) (Q : Unit → Shared → Prop) (E : Value → Shared → Prop) (s : Shared), wpAny (model cx.prog cx.w) A (storeName env x v) Q E s → wpAny (model cx.prog cx.w) A (assign (.Name x p) env v) Q E s :=
  fun _ _ _ _ h => wpAny_assign_Name h
theorem zjb {x y : Str} {i j : Nat} {p p' pos : Pos} {k : Nat} (hx : ε.vars.lookup x = some i) (hy : ε.vars.lookup y = some j) (hfx : ε.kinds.lookup x ≠ some .free) (hfy : ε.kinds.lookup y ≠ some .free) :
    SoundA cx ε (.Tuple [.Name x p, .Name y p'] k pos) (put2 i j) := by
  intro n cf A env F s ρ ad m cm H v d ρ' hv hp Q E hQ
  unfold put2 at hp
  split at hp <;> cases hp
  exact zhs H hv (is := [i, j]) rfl rfl rfl (.cons hx hfx zcB (.cons hy hfy zcB .nil)) hQ
theorem zhb {x y w : Str} {i j l : Nat} {p p' p'' pos' pos : Pos} {k : Nat} {e : Expr} {z : X} (hx : ε.vars.lookup x = some i) (hy : ε.vars.lookup y = some j) (hw' : ε.vars.lookup w = some l) (hfx : ε.kinds.lookup x ≠ some .free) (hfy : ε.kinds.lookup y ≠ some .free) (hfw : ε.kinds.lookup w ≠ some .free)
    (h : Sound cx ε e z) (hs : ∀ env, swapsWith e (some (.Tuple [.Name x p, .Name y p', .Name w p''] k pos')) pos.line env = pure false) (hw : ∀ env, swappedStores [.Tuple [.Name x p, .Name y p', .Name w p''] k pos'] e env = pure none) :
    SoundS cx ε (.Assign [.Tuple [.Name x p, .Name y p', .Name w p''] k pos'] e pos) (.assign3 i j l z) := by
  intro n cf A env F s ρ ad m cm H ρ' o he Q E hQ
  replace he := (zjG cf).symm.trans he
  split at he <;> cases he
  rename_i a b c e1
  refine wpAny_Assign_stores (zeb H h e1 fun v F1 s1 st q => ?_) (hs env) (hw env)
  show wpAny _ _ (assign (.Tuple [.Name x p, .Name y p', .Name w p''] k pos') env v) _ _ _
  have H1 := H.step st
  exact zhs H1 q (is := [i, j, l]) rfl rfl rfl (.cons hx hfx zcB (.cons hy hfy zcB (.cons hw' hfw zcB .nil))) fun F2 s2 m2 cm2 x2 f2 => hQ .next F2 s2 ad m2 cm2 ((StepS.ofStep st).trans x2) f2 .next
theorem ziA {x y : Str} {i j : Nat} {ts : List Expr} {pos' pos : Pos} {k : Nat} {e : Expr} {z : X} (hx : ε.vars.lookup x = some i) (hy : ε.vars.lookup y = some j) (hfx : ε.kinds.lookup x ≠ some .free) (hfy : ε.kinds.lookup y ≠ some .free) (hij : i ≠ j)
    (h : Sound cx ε e z) (hs : ∀ env, swapsWith e (some (.Tuple ts k pos')) pos.line env = pure false) (hw : ∀ env : Env, env.scope.kind = .function → env.scope.names = ε.kinds → swappedStores [.Tuple ts k pos'] e env = pure (some [x, y])) :
    SoundS cx ε (.Assign [.Tuple ts k pos'] e pos) (.assign2 i j z) := by
  intro n cf A env F s ρ ad m cm H ρ' o he Q E hQ
  replace he := (zgZ cf).symm.trans he
  split at he <;> cases he
  rename_i a b e1
  rw [exec_Assign_arm]
  refine wpAny_bind (wpAny_standAt ?_)
  rw [show swapsWithSole [.Tuple ts k pos'] e pos.line env = pure false from hs env]
  refine wpAny_bind (wpAny_pure ?_)
  rw [if_neg (by decide)]
  refine wpAny_bind (zeb H h e1 fun v F1 s1 st q => ?_)
  rw [hw env H.frm.en.kind H.frm.en.names]
  refine wpAny_bind (wpAny_pure ?_)
  have H1 := H.step st
  show wpAny _ _ (do
    rule "assign.swapped-stores"
    let items ← unpackItems v 2 none
    assignInOrder [bindName env y, bindName env x] items.reverse
    pure Flow.next) _ _ _
  refine wpAny_bind (wpAny_rule (wpAny_bind (zkp H1 q rfl fun vs s2 st2 q2 => ?_)))
  have H2 := H1.step st2
  have q3 := q2.reverse
  have S : Stores cx ε A env [bindName env y, bindName env x] [j, i] := .cons hy hfy (fun _ _ _ _ h => wpAny_bindName h) (.cons hx hfx (fun _ _ _ _ h => wpAny_bindName h) .nil)
  refine wpAny_bind (S.run H2 q3 rfl fun F3 s3 m3 cm3 x3 f3 => wpAny_pure ?_)
  have e : setAll ρ [j, i] [a, b].reverse = (ρ.set i (.val a)).set j (.val b) := by
    show (ρ.set j (.val b)).set i (.val a) = _
    rw [List.set_comm _ _ hij]
  rw [e] at x3 f3
  exact hQ .next F3 s3 ad m3 cm3 (((StepS.ofStep st).trans (StepS.ofStep st2)).trans x3) f3 .next
theorem zja {x y : Str} {i j : Nat} {p p' pos' : Pos} {k : Nat} {it : Expr} {z : X} {bs : List Stmt} {b : S} {pos : Pos} (hx : ε.vars.lookup x = some i) (hy : ε.vars.lookup y = some j) (hfx : ε.kinds.lookup x ≠ some .free) (hfy : ε.kinds.lookup y ≠ some .free) (hi : SoundI cx ε it z) (hb : SoundSs cx ε bs b)
    (hs : ∀ env x, foldedSetIterable it env x = pure x) : SoundS cx ε (.For (.Tuple [.Name x p, .Name y p'] k pos') it bs [] pos) (.forE2 i j z b) := by
  intro n cf A env F s ρ ad m cm H ρ' o h Q E hQ
  replace h := (zgX cf).symm.trans h
  split at h
  · rename_i items e
    exact zl0 (zjb hx hy hfx hfy) hi hb hs H e h hQ
  · cases h
theorem zhv {body : List Stmt} {h₀ : ExceptHandler} {hs : List ExceptHandler} {b : S} {pos : Pos} (hb : SoundSs cx ε body b) : SoundS cx ε (.Try body (h₀ :: hs) [] [] pos) (.try_ b) := by
  intro n cf A env F s ρ ad m cm H ρ' o h Q E hQ
  replace h := (zkf cf).symm.trans h
  refine wpAny_Try_except (hb n cf A env F s ρ ad m cm H ρ' o h _ _ fun f F' s' ad' m' cm' x fr q => ?_)
  cases q with
  | next => exact wpAny_execs_nil (hQ _ F' s' ad' m' cm' x fr .next)
  | brk => exact hQ _ F' s' ad' m' cm' x fr .brk
  | cont => exact hQ _ F' s' ad' m' cm' x fr .cont
  | ret r => exact hQ _ F' s' ad' m' cm' x fr (.ret r)
end
end Mine
end MpSx
section MpTx
open PySem PySem.Calls PyProof.Rows PySem.Builtin.Str
namespace Mine
theorem zeQ {env : Env} : ∀ (names : List (Str × NameKind)) (cs : List (Str × Addr)), (∀ n k, (n, k) ∈ names → k = .free → ∃ c, env.cells.lookup n = some c) → (∀ n c, cs.lookup n = some c → env.cells.lookup n = some c) →
    ∃ cs', (forIn names cs fun (x : Str × NameKind) (r : List (Str × Addr)) => (if (x.2 == NameKind.free) = true then do let c ← cellOf env x.1; pure (ForInStep.yield ((x.1, c) :: r)) else pure (ForInStep.yield r) : Sem (ForInStep (List (Str × Addr))))) = (pure cs' : Sem _) ∧
      (∀ n c, cs'.lookup n = some c → env.cells.lookup n = some c) ∧ (∀ n, (cs.lookup n).isSome ∨ (n, NameKind.free) ∈ names → (cs'.lookup n).isSome)
  | [], cs, _, h2 => ⟨cs, rfl, h2, fun n h => h.elim id fun h => nomatch h⟩
  | (n, k) :: r, cs, h1, h2 => by
    rw [List.forIn_cons]
    by_cases hk : k = .free
    · subst hk
      obtain ⟨c, hc⟩ := h1 n .free List.mem_cons_self rfl
      obtain ⟨cs', e, h3, h4⟩ := zeQ r ((n, c) :: cs) (fun n' k' h => h1 n' k' (List.mem_cons_of_mem _ h)) (fun n' c' h => by
        rw [List.lookup_cons] at h
        cases hn : n' == n with
        | true => rw [hn] at h; cases h; rw [beq_iff_eq.mp hn]; exact hc
        | false => rw [hn] at h; exact h2 n' c' h)
      refine ⟨cs', ?_, h3, fun n' h => h4 n' ?_⟩
      · have e1 : cellOf env n = pure c := by unfold cellOf; rw [hc]
        simp only [beq_self_eq_true, if_true, e1, pure_bind]
        exact e
      · rw [List.lookup_cons]
        cases hn : n' == n with
        | true => exact .inl rfl
        | false =>
          rcases h with h | h
          · exact .inl h
          · rcases List.mem_cons.mp h with h | h
            · cases h; simp at hn
            · exact .inr h
    · obtain ⟨cs', e, h3, h4⟩ := zeQ r cs (fun n' k' h => h1 n' k' (List.mem_cons_of_mem _ h)) h2
      have hb : (k == NameKind.free) = false := by simpa using hk
      refine ⟨cs', ?_, h3, fun n' h => h4 n' (h.imp id fun h => ?_)⟩
      · simp only [hb, Bool.false_eq_true, if_false, pure_bind]
        exact e
      · rcases List.mem_cons.mp h with h | h
        · cases h; exact absurd rfl hk
        · exact h
theorem zk0 {scope : Scope} {env : Env} (h : ∀ n k, (n, k) ∈ scope.names → k = .free → ∃ c, env.cells.lookup n = some c) :
    ∃ cl, closureFor scope env = pure cl ∧ (∀ n c, cl.lookup n = some c → env.cells.lookup n = some c) ∧ (∀ n, (n, NameKind.free) ∈ scope.names → (cl.lookup n).isSome) := by
  obtain ⟨cs', e, h3, h4⟩ := zeQ scope.names [] h (fun _ _ h => nomatch h)
  refine ⟨cs', ?_, h3, fun n h => h4 n (.inr h)⟩
  unfold closureFor
  simp only [bind_pure]
  refine Eq.trans ?_ e
  congr 1
noncomputable def relab (ks : List (Str × NameKind)) (names : List (Str × NameKind)) : List (Str × NameKind) :=
  names.map fun (n, k) => if (k == .free && ks.lookup n == some .cell) then (n, .cell) else (n, k)
noncomputable def compSc (ε : Sc) (scope : Scope) (tv : List (Str × Nat)) : Sc :=
  ⟨relab ε.kinds scope.names, tv ++ ε.vars.filter fun y => scope.names.lookup y.1 == some .free, ε.code⟩
theorem zeE {ks : List (Str × NameKind)} {x : Str} : ∀ {names : List (Str × NameKind)}, names.lookup x = some .local → (relab ks names).lookup x = some .local
  | [], h => nomatch h
  | (n, k) :: r, h => by
    unfold relab
    rw [List.map_cons]
    rw [List.lookup_cons] at h
    cases hx : x == n with
    | true =>
      rw [hx] at h
      cases h
      show List.lookup x ((n, NameKind.local) :: _) = _
      rw [List.lookup_cons, hx]
    | false =>
      rw [hx] at h
      by_cases hc : (k == .free && ks.lookup n == some .cell) = true
      · simp only [hc, if_true, List.lookup_cons, hx]; exact zeE h
      · simp only [if_neg hc, List.lookup_cons, hx]; exact zeE h
theorem zft {ks : List (Str × NameKind)} {x : Str} : ∀ {names : List (Str × NameKind)}, names.lookup x = some .free → (relab ks names).lookup x = some .cell ∨ (relab ks names).lookup x = some .free
  | [], h => nomatch h
  | (n, k) :: r, h => by
    unfold relab
    rw [List.map_cons]
    rw [List.lookup_cons] at h
    cases hx : x == n with
    | true =>
      rw [hx] at h
      cases h
      by_cases hc : (NameKind.free == .free && ks.lookup n == some .cell) = true
      · left; simp only [hc, if_true, List.lookup_cons, hx]
      · right; simp only [if_neg hc, List.lookup_cons, hx]
    | false =>
      rw [hx] at h
      by_cases hc : (k == .free && ks.lookup n == some .cell) = true
      · simp only [hc, if_true, List.lookup_cons, hx]; exact zft h
      · simp only [if_neg hc, List.lookup_cons, hx]; exact zft h
theorem zb8 {β : Type} {p : Str → Bool} {x : Str} {j : β} : ∀ {l : List (Str × β)}, (l.filter fun y => p y.1).lookup x = some j → l.lookup x = some j ∧ p x = true
  | [], h => nomatch h
  | (n, k) :: r, h => by
    rw [List.filter_cons] at h
    rw [List.lookup_cons]
    cases hx : x == n with
    | true =>
      have e := beq_iff_eq.mp hx
      subst e
      by_cases hp : p x = true
      · simp only [hp, if_true, List.lookup_cons, hx] at h
        exact ⟨h, hp⟩
      · rw [if_neg hp] at h
        exact absurd (zb8 h).2 hp
    | false =>
      by_cases hp : p n = true
      · simp only [hp, if_true, List.lookup_cons, hx] at h
        exact zb8 h
      · rw [if_neg hp] at h
        exact zb8 h
theorem ze1 {β : Type} {x : Str} : ∀ {l r : List (Str × β)}, (l ++ r).lookup x = (match l.lookup x with | some b => some b | none => r.lookup x)
  | [], r => rfl
  | (n, k) :: l, r => by
    rw [List.cons_append, List.lookup_cons, List.lookup_cons]
    cases hx : x == n with
    | true => rfl
    | false => exact ze1
noncomputable def updL (m : Str → Option Value) : List Str → List Value → Str → Option Value
  | x :: xs, v :: vs => updL (fun y => if y = x then some v else m y) xs vs
  | _, _ => m
theorem zjS {x : Str} : ∀ {xs : List Str} {vs : List Value} {m : Str → Option Value}, x ∉ xs → updL m xs vs x = m x
  | [], _, _, _ => rfl
  | _ :: _, [], _, _ => rfl
  | y :: xs, v :: vs, m, h => by
    show updL _ xs vs x = _
    rw [zjS fun h' => h (List.mem_cons_of_mem _ h')]
    exact if_neg fun (e : x = y) => h (by rw [e]; exact List.mem_cons_self)
theorem zfs {j : Nat} : ∀ {is : List Nat} {ds : List D} {ρ : List Slot}, j ∉ is → slotAt (setAll ρ is ds) j = slotAt ρ j
  | [], _, _, _ => rfl
  | _ :: _, [], _, _ => rfl
  | i :: is, d :: ds, ρ, h => by
    show slotAt (setAll (ρ.set i (.val d)) is ds) j = _
    rw [zfs fun h' => h (List.mem_cons_of_mem _ h'), zbN, if_neg fun (e : j = i) => h (by rw [e]; exact List.mem_cons_self)]
theorem ziu {cx : XCx} {F : Addr → Prop} {h : Heap} {ad : Nat → Addr} {x : Str} {i : Nat} : ∀ {xs : List Str} {is : List Nat} {vs : List Value} {ds : List D} {m : Str → Option Value} {ρ : List Slot}, xs.Nodup → is.Nodup → xs.length = is.length → ds.length = is.length → RepL cx.T F h vs ds → (xs.zip is).lookup x = some i →
    SlotRep cx F h ad i (updL m xs vs x) (slotAt (setAll ρ is ds) i) := by
  intro xs
  induction xs with
  | nil => intro is vs ds m ρ _ _ _ _ _ e; cases e
  | cons y xs ih =>
    intro is vs ds m ρ h1 h2 h3 h4 q e
    cases is with
    | nil => cases h3
    | cons j is => cases q with
      | nil => cases h4
      | @cons v vs d ds a b =>
        rw [List.zip_cons_cons, List.lookup_cons] at e
        obtain ⟨n1, h1'⟩ := List.nodup_cons.mp h1
        obtain ⟨n2, h2'⟩ := List.nodup_cons.mp h2
        cases hx : x == y with
        | true =>
          rw [hx] at e
          cases e
          have ey := beq_iff_eq.mp hx
          subst ey
          show SlotRep cx F h ad i (updL _ xs vs x) (slotAt (setAll (ρ.set i (.val d)) is ds) i)
          rw [zjS n1, zfs n2, zbN, if_pos rfl, if_pos rfl]
          split
          · exact .val a
          · exact .unset
        | false =>
          rw [hx] at e
          show SlotRep cx F h ad i (updL _ xs vs x) (slotAt (setAll (ρ.set j (.val d)) is ds) i)
          exact ih h1' h2' (Nat.succ.inj h3) (Nat.succ.inj h4) b e
theorem zfQ {x : Str} {i : Nat} : ∀ {xs : List Str} {is : List Nat}, (xs.zip is).lookup x = some i → x ∈ xs ∧ i ∈ is
  | [], _, h => nomatch h
  | _ :: _, [], h => nomatch h
  | y :: xs, j :: is, h => by
    rw [List.zip_cons_cons, List.lookup_cons] at h
    cases hx : x == y with
    | true => rw [hx] at h; cases h; rw [beq_iff_eq.mp hx]; exact ⟨List.mem_cons_self, List.mem_cons_self⟩
    | false => rw [hx] at h; obtain ⟨a, b⟩ := zfQ h; exact ⟨List.mem_cons_of_mem _ a, List.mem_cons_of_mem _ b⟩
set_option genInjectivity false in
structure CompOK (ε : Sc) (scope : Scope) (xs : List Str) (is : List Nat) : Prop where
  kind : scope.kind = .function
  nocell : ∀ y ∈ scope.names, y.2 ≠ .cell
  names : ∀ y ∈ scope.names, y.2 = .local → scope.names.lookup y.1 = some .local
  xl : ∀ x ∈ xs, scope.names.lookup x = some .local
  free : ∀ y k, (y, k) ∈ scope.names → k = .free → (∃ j, ε.vars.lookup y = some j) ∧ ε.kinds.lookup y ≠ some .local
  apart : ∀ y j, ε.vars.lookup y = some j → j ∉ is
  xn : xs.Nodup
  isn : is.Nodup
  len : xs.length = is.length
theorem zbO {β : Type} {x : Str} {b : β} : ∀ {l : List (Str × β)}, l.lookup x = some b → (x, b) ∈ l
  | [], h => nomatch h
  | (n, k) :: r, h => by
    rw [List.lookup_cons] at h
    cases hx : x == n with
    | true => rw [hx] at h; cases h; rw [beq_iff_eq.mp hx]; exact List.mem_cons_self
    | false => rw [hx] at h; exact List.mem_cons_of_mem _ (zbO h)
section
variable {cx : XCx} {ε : Sc} {env : Env} {F : Addr → Prop} {h : Heap} {ρ : List Slot} {ad : Nat → Addr} {m cm : Str → Option Value}
theorem EnvOK.closure (e : EnvOK cx ε env F h ρ ad m cm) {scope : Scope} {xs : List Str} {is : List Nat} (c : CompOK ε scope xs is) :
    ∃ cl, closureFor scope env = pure cl ∧ (∀ n c, cl.lookup n = some c → env.cells.lookup n = some c) ∧ (∀ n, (n, NameKind.free) ∈ scope.names → (cl.lookup n).isSome) :=
  zk0 fun n k hm hk => by
    obtain ⟨⟨j, hj⟩, hl⟩ := c.free n k hm hk
    rcases e.vars n j hj with ⟨h, _⟩ | ⟨_, h, _⟩
    · exact absurd h hl
    · exact h
theorem EnvOK.comp (e : EnvOK cx ε env F h ρ ad m cm) {scope : Scope} {xs : List Str} {is : List Nat} (c : CompOK ε scope xs is) {cl : List (Str × Addr)} (h1 : ∀ n c, cl.lookup n = some c → env.cells.lookup n = some c) (h2 : ∀ n, (n, NameKind.free) ∈ scope.names → (cl.lookup n).isSome)
    {C : Addr} (hC : ¬ cx.X C) {m₁ : Str → Option Value} {vs : List Value} {ds : List D} (hn : h.Ns C (updL m₁ xs vs)) (hd : ds.length = is.length) (hr : RepL cx.T F h vs ds) :
    EnvOK cx (compSc ε scope (xs.zip is)) (compEnvC scope cl C env) F h (setAll ρ is ds) ad (updL m₁ xs vs) cm := by
  refine ⟨c.kind, ?_, e.glob, e.blt, e.code, hC, fun n a ha => e.cxx n a (h1 n a ha), hn, fun n a ha => e.cells n a (h1 n a ha), fun y j hy => ?_⟩
  · show (relabel scope env).names = relab ε.kinds scope.names
    unfold relabel relab
    have ek : env.scope.kind = .function := e.kind
    have en : ∀ n, env.kindOf n = ε.kinds.lookup n := fun n => by unfold Env.kindOf; rw [e.names]
    simp only [ek, en, beq_self_eq_true, Bool.and_true]
  · have hy' : ((xs.zip is) ++ ε.vars.filter fun y => scope.names.lookup y.1 == some .free).lookup y = some j := hy
    rw [ze1] at hy'
    split at hy'
    · rename_i i ei
      cases hy'
      left
      exact ⟨zeE (c.xl y (zfQ ei).1), ziu c.xn c.isn c.len hd hr ei⟩
    · obtain ⟨hj, hp⟩ := zb8 (p := fun z => scope.names.lookup z == some .free) hy'
      have hf : scope.names.lookup y = some .free := by simpa using hp
      right
      have hm := zbO hf
      have hl := (c.free y .free hm rfl).2
      rcases e.vars y j hj with ⟨h, _⟩ | ⟨_, _, q⟩
      · exact absurd h hl
      · refine ⟨zft hf, ?_, ?_⟩
        · exact Option.isSome_iff_exists.mp (h2 y hm)
        · rw [zfs (c.apart y j hj)]
          exact q
end
end Mine
end MpTx
section MpUx
open PySem PySem.Calls PyProof.Rows PySem.Builtin.Str
namespace Mine
section
variable {cx : XCx} {ε : Sc} {A : Around} {env : Env} {F F₀ : Addr → Prop} {s s₀ : Shared}
theorem Step.kept (ok : CxOk cx) (w₀ : Wd cx F₀ s₀) (x : Step cx F₀ s₀ F s) {wr : Addr → Prop} (hw : ∀ b, wr b → s₀.heap.get? b = none ∧ ¬ F b) {h' : Heap} (k : Nat)
    (hk : ∀ a o, ¬ wr a → s.heap.get? a = some o → h'.get? a = some o) : Step cx F₀ s₀ F { s with heap := h', toks := k } := by
  have nf : ∀ a, F a → ¬ wr a := fun a h hm => (hw a hm).2 h
  have nx : ∀ a, cx.X a → ¬ wr a := fun a h hm => by
    obtain ⟨o, e⟩ := w₀.xex a h
    rw [(hw a hm).1] at e; cases e
  have w := x.wd
  refine ⟨x.sub, x.new, fun a o e ax => hk a o (fun hm => ?_) (x.keep a o e ax), x.os, ⟨fun a o e ax => hk a o (nf a (w.f0 a o e ax)) (w.base a o e ax), ok.xi _ _ _ _ w.xi (fun _ h => h) (fun a o h e => hk a o (h.elim (nf a) (nx a)) e), w.gens, w.f0, fun a h => let ⟨o, e⟩ := w.lt a h; ⟨o, hk a o (nf a h) e⟩, w.nx, fun a h => let ⟨o, e⟩ := w.xex a h; ⟨o, hk a o (nx a h) e⟩⟩⟩
  rw [(hw a hm).1] at e; cases e
noncomputable def Tests (cx : XCx) (ε : Sc) (ifs : List Expr) (c : X) : Prop :=
  ∀ n cf A env F s ρ ad m cm, Here cx ε n cf A env F s ρ ad m cm → ∀ b, evT cf c ρ = some b → ∀ (Q : Bool → Shared → Prop) (E : Value → Shared → Prop), (∀ F' s', Step cx F s F' s' → Q b s') →
    wpAny (model cx.prog cx.w) A (forIn ifs true fun c r => if r = true then do let ok ← isTrue c env (eval c env); pure (ForInStep.yield ok) else pure (ForInStep.yield r)) Q E s
theorem zd3 : Tests cx ε [] (.const (.bool true)) := by
  intro n cf A env F s ρ ad m cm H b hb Q E hQ
  have hb' : some true = some b := hb
  cases hb'
  rw [List.forIn_nil]
  exact wpAny_pure (hQ F s (Step.refl H.wd))
theorem zeW {t : Expr} {c : X} (h : Sound cx ε t c) : Tests cx ε [t] c := by
  intro n cf A env F s ρ ad m cm H b hb Q E hQ
  rw [List.forIn_cons]
  simp only [if_true]
  refine wpAny_bind (wpAny_bind (h.tr n cf A env F s ρ ad m cm H b hb _ _ fun F' s' st => wpAny_pure ?_))
  show wpAny _ _ (forIn [] b _) _ _ _
  rw [List.forIn_nil]
  exact wpAny_pure (hQ F' s' st)
noncomputable def TargetC (cx : XCx) (tg : Expr) (xs : List Str) (bind : D → Option (List D)) : Prop :=
  ∀ (A : Around) (F : Addr → Prop) (s : Shared) (cenv : Env) (C : Addr) (m : Str → Option Value) (v : Value) (d : D) (ds : List D), CxOk cx → Wd cx F s → A.handled = none → cenv.locals = C → (∀ x ∈ xs, cenv.kindOf x = some .local) →
    (cenv.scope.kind == .class || (cenv.scope.kind == .module && cenv.locals != cenv.globals)) = false → s.heap.Ns C m → ¬ F C → Rep cx.T F s.heap v d → bind d = some ds → ∀ (Q : Unit → Shared → Prop) (E : Value → Shared → Prop),
    (∀ h' tk vs, (∀ a o, a ≠ C → s.heap.get? a = some o → h'.get? a = some o) → h'.Ns C (updL m xs vs) → RepL cx.T F h' vs ds → Q () { s with heap := h', toks := tk }) → wpAny (model cx.prog cx.w) A (assign tg cenv v) Q E s
noncomputable def one1 (d : D) : Option (List D) := some [d]
noncomputable def two2 : D → Option (List D)
  | .tup [a, b] => some [a, b]
  | _ => none
theorem zda {x : Str} {p : Pos} : TargetC cx (.Name x p) [x] one1 := by
  intro A F s cenv C m v d ds ok w hh hC hk hp hn nf hv hb Q E hQ
  cases hb
  subst hC
  refine wpAny_assign_Name (wpAny_storeName_local (hk x List.mem_cons_self) hn (fun h' hn' sb => ?_) hp)
  have keep : ∀ a o, a ≠ cenv.locals → s.heap.get? a = some o → h'.get? a = some o := fun a o h e => (sb.2 a h).trans e
  exact hQ h' _ [v] keep hn' (.cons (hv.mono (fun _ h => h) fun a o f e => keep a o (fun e => nf (e ▸ f)) e) .nil)
theorem zc1 {x y : Str} {p p' pos : Pos} {k : Nat} : TargetC cx (.Tuple [.Name x p, .Name y p'] k pos) [x, y] two2 := by
  intro A F s cenv C m v d ds ok w hh hC hk hp hn nf hv hb Q E hQ
  unfold two2 at hb
  split at hb <;> cases hb
  rename_i da db
  subst hC
  cases hv with
  | @tup a vs j _ f g z q =>
  have ht : s.heap.IsTuple a vs.toArray := ⟨_, g, rfl, j, rfl⟩
  refine wpAny_assign_Tuple hh ht (by rw [List.size_toArray, q.length]; rfl) rfl fun h₁ he => ?_
  have keep1 : ∀ b o, s.heap.get? b = some o → h₁.get? b = some o := fun b o e => he b o (Nat.ne_of_lt (Heap.lt_size e)) e
  cases q with
  | @cons va _ _ _ ra q => cases q with
  | @cons vb _ _ _ rb q =>
  cases q
  show wpAny _ _ (do holding [vb] (assign (.Name x p) cenv va); holding [] (assign (.Name y p') cenv vb); pure ()) _ _ _
  have hn1 : h₁.Ns cenv.locals m := hn.at' fun o e => keep1 _ o e
  refine wpAny_bind (wpAny_holding (wpAny_assign_Name (wpAny_storeName_local (s := { s with heap := h₁ }) (hk x List.mem_cons_self) hn1 (fun h2 hn2 sb2 => ?_) hp)))
  refine wpAny_bind (wpAny_holding (wpAny_assign_Name (wpAny_storeName_local (hk y (List.mem_cons_of_mem _ List.mem_cons_self)) hn2 (fun h3 hn3 sb3 => wpAny_pure ?_) hp)))
  have keep : ∀ a o, a ≠ cenv.locals → s.heap.get? a = some o → h3.get? a = some o := fun a o h e => (sb3.2 a h).trans ((sb2.2 a h).trans (keep1 a o e))
  have keepF : ∀ a o, F a → s.heap.get? a = some o → h3.get? a = some o := fun a o f e => keep a o (fun e => nf (e ▸ f)) e
  exact hQ h3 _ [va, vb] keep hn3 (.cons (ra.mono (fun _ h => h) keepF) (.cons (rb.mono (fun _ h => h) keepF) .nil))
end
end Mine
end MpUx
section MpVx
open PySem PySem.Calls PyProof.Rows PySem.Builtin.Str
namespace Mine
theorem ziY {prog : Program} {w : World} {A : Around} {R : Result → Shared → Prop} {s : Shared} {elt target iter : Expr} {ifs : List Expr} {scope : Scope} {pos : Pos} {it acc : Value} {env : Env} (I : Nat → Shared → Prop)
    (turn : ∀ n s, I n s → wpAny (model prog w) A (pyNext it) (fun r s₁ => match r with
      | none => R (.ok .next) s₁
      | some v => wpAny (model prog w) A (letOwnedTupleGo target it v) (fun _ s₁' => wpAny (model prog w) A (assign target env v) (fun _ s₂ =>
          wpAny (model prog w) A (forIn ifs true fun c r => if r = true then do let ok ← isTrue c env (eval c env); pure (ForInStep.yield ok) else pure (ForInStep.yield r)) (fun ok s₃ =>
            if ok = true then wpAny (model prog w) A (eval elt env) (fun x s₄ =>
              wpAny (model prog w) A (call (.builtin "list.append") [acc, x]) (fun _ s₅ => ∃ m, m < n ∧ I m s₅) (notedBy (model prog w) A env fun e s' => R (.error e) s') s₄) (notedBy (model prog w) A env fun e s' => R (.error e) s') s₃
            else ∃ m, m < n ∧ I m s₃) (notedBy (model prog w) A env fun e s' => R (.error e) s') s₂) (notedBy (model prog w) A env fun e s' => R (.error e) s') s₁') (notedBy (model prog w) A env fun e s' => R (.error e) s') s₁) (notedBy (model prog w) A env fun e s' => R (.error e) s') s)
    (n : Nat) (h : I n s) :
    codeAny (model prog w) A (.compLoop (.ListComp elt [⟨target, iter, ifs, 0⟩] scope pos) 0 it acc env) R s := by
  refine codeAny_loop rfl I (fun n s hI => ?_) n h
  show wpAny _ A ((compTurn (.ListComp elt [⟨target, iter, ifs, 0⟩] scope pos) 0 it acc env).onRaise (fun x => do noteFrame x env; theTreesLotGoes x)) _ _ s
  refine wpAny_noted ?_
  rw [compTurn_list]
  refine wpAny_bind (wpAny_standAt (wpAny_bind (wpAny_mono (turn n s hI) (fun r s₁ h₁ => ?_) fun _ _ h' => h')))
  cases r with
  | none => exact wpAny_pure h₁
  | some v =>
    refine wpAny_bind (wpAny_mono h₁ (fun _ s₁' h₁' => ?_) fun _ _ h' => h')
    refine wpAny_bind (wpAny_mono h₁' (fun _ s₂ h₂ => wpAny_bind (wpAny_mono h₂ (fun ok s₃ h₃ => ?_) fun _ _ h' => h')) fun _ _ h' => h')
    cases ok with
    | false => exact wpAny_pure ⟨rfl, h₃⟩
    | true =>
      exact wpAny_bind (wpAny_bind (wpAny_mono h₃ (fun x s₄ h₄ => wpAny_bind (wpAny_mono h₄ (fun _ s₅ h₅ => wpAny_pure (wpAny_pure ⟨rfl, h₅⟩)) fun _ _ h' => h')) fun _ _ h' => h'))
noncomputable def turnC (cf : Nat → List D → Option D) (is : List Nat) (bind : D → Option (List D)) (c e : X) (ρ : List Slot) (d : D) : Option (Option D) :=
  match bind d with
  | some ds => turnD (ev cf c (setAll ρ is ds)) (ev cf e (setAll ρ is ds))
  | none => none
inductive CoreI (cx : XCx) (F : Addr → Prop) (s : Shared) (F1 : Addr → Prop) (h1 : Heap) (wr : List Addr) (Da C : Addr) (St : Nat → Heap → Prop) (items l : List D) (go : List D → Option (List D)) (k : Nat) (s' : Shared) : Prop
  | mk (j : Nat) (F' : Addr → Prop) (ys : List Value) (ds : List D) (kk : Nat) (m' : Str → Option Value) (hj : j ≤ items.length) (hk : k = items.length - j) (st : Step cx F s F' s') (hrep : ∀ v d, Rep cx.T F1 h1 v d → Rep cx.T F' s'.heap v d) (hF : ∀ a, F1 a → F' a) (hst : St j s'.heap)
    (hwr : ∀ b ∈ wr, ¬ F' b) (hnD : ¬ F' Da) (hnC : ¬ F' C) (hD : s'.heap.get? Da = some (lobj ys.toArray kk)) (hys : RepL cx.T F' s'.heap ys ds) (hyl : ys.length ≤ j) (hns : s'.heap.Ns C m') (rest : List D) (hgo : go (items.drop j) = some rest) (hrest : l = ds ++ rest)
set_option genInjectivity false in
structure CoreL (cx : XCx) (F1 : Addr → Prop) (h1 : Heap) (wr : List Addr) (Da C : Addr) (St : Nat → Heap → Prop) (j : Nat) (ys : List Value) (ds : List D) (kk : Nat) (m' : Str → Option Value) (F4 : Addr → Prop) (h4 : Heap) : Prop where
  p1 : ∀ v d, Rep cx.T F1 h1 v d → Rep cx.T F4 h4 v d
  p2 : ∀ a, F1 a → F4 a
  p3 : St j h4
  p4 : ∀ b ∈ wr, ¬ F4 b
  p5 : ¬ F4 Da
  p6 : ¬ F4 C
  p7 : h4.get? Da = some (lobj ys.toArray kk)
  p8 : RepL cx.T F4 h4 ys ds
  p9 : h4.Ns C m'
inductive CoreT (cf : Nat → List D → Option D) (c e : X) (ρ : List Slot) (go : Option (List D)) (rest : List D) : Prop
  | skip : truthR (ev cf c ρ) = some false → go = some rest → CoreT cf c e ρ go rest
  | take (r : R) (y : D) (ys : List D) : truthR (ev cf c ρ) = some true → ev cf e ρ = some [r] → r.fz = some y → go = some ys → rest = y :: ys → CoreT cf c e ρ go rest
theorem zkY {f : D → Option (Option D)} {d : D} {r rest : List D} (h : compGo f (d :: r) = some rest) : (f d = some none ∧ compGo f r = some rest) ∨ ∃ y ys, f d = some (some y) ∧ compGo f r = some ys ∧ rest = y :: ys := by
  unfold compGo at h
  cases e : f d with
  | none => rw [e] at h; cases h
  | some o =>
    rw [e] at h
    cases o with
    | none => exact .inl ⟨rfl, h⟩
    | some y =>
      cases e2 : compGo f r with
      | none => simp only [e2] at h; cases h
      | some ys => simp only [e2] at h; cases h; exact .inr ⟨y, ys, rfl, rfl, rfl⟩
theorem zit {c e : Option (List R)} {o : Option D} (h : turnD c e = some o) : (truthR c = some false ∧ o = none) ∨ ∃ r y, truthR c = some true ∧ e = some [r] ∧ r.fz = some y ∧ o = some y := by
  unfold turnD at h
  cases t : truthR c with
  | none => rw [t] at h; cases h
  | some b =>
    rw [t] at h
    cases b with
    | false => cases h; exact .inl ⟨rfl, rfl⟩
    | true =>
      rcases e with _ | _ | ⟨r, _ | ⟨_, _⟩⟩ <;> try (cases h; done)
      obtain ⟨y, e1, e2⟩ := Option.map_eq_some_iff.mp (show r.fz.map some = some o from h)
      exact .inr ⟨r, y, rfl, rfl, e1, e2.symm⟩
theorem zmd {cf : Nat → List D → Option D} {is : List Nat} {bind : D → Option (List D)} {c e : X} {ρ : List Slot} {d : D} {r rest : List D} (h : compGo (turnC cf is bind c e ρ) (d :: r) = some rest) :
    ∃ dv, bind d = some dv ∧ CoreT cf c e (setAll ρ is dv) (compGo (turnC cf is bind c e ρ) r) rest := by
  have key : ∀ {o}, turnC cf is bind c e ρ d = some o → ∃ dv, bind d = some dv ∧ turnD (ev cf c (setAll ρ is dv)) (ev cf e (setAll ρ is dv)) = some o := by
    intro o h
    cases q : bind d with
    | none => simp only [turnC, q] at h; cases h
    | some dv => simp only [turnC, q] at h; exact ⟨dv, rfl, h⟩
  rcases zkY h with ⟨h1, h2⟩ | ⟨y, ys, h1, h2, h3⟩
  · obtain ⟨dv, e1, e2⟩ := key h1
    refine ⟨dv, e1, ?_⟩
    rcases zit e2 with ⟨t, _⟩ | ⟨_, _, _, _, _, q⟩
    · exact .skip t h2
    · cases q
  · obtain ⟨dv, e1, e2⟩ := key h1
    refine ⟨dv, e1, ?_⟩
    rcases zit e2 with ⟨_, q⟩ | ⟨r', y', t, a, b, q⟩
    · cases q
    · cases q; exact .take r' y ys t a b h2 h3
section
variable {cx : XCx} {ε : Sc}
theorem ziX {elt iter tg : Expr} {ifs : List Expr} {scope : Scope} {pos cpos : Pos} {xs : List Str} {is : List Nat} {bind : D → Option (List D)} {c e it : X}
    (hT : TargetC cx tg xs bind) (hb : ∀ d ds, bind d = some ds → ds.length = is.length) (hi : SoundI cx ε iter it) (ok : CompOK ε scope xs is) (hc : Tests cx (compSc ε scope (xs.zip is)) ifs c) (he : Sound cx (compSc ε scope (xs.zip is)) elt e)
    (hs : ∀ env x, foldedSetIterable iter env x = pure x)
    {n cf A env F s ρ ad m cm} (H : Here cx ε n cf A env F s ρ ad m cm) {items l : List D} (hit : evI cf it ρ = some items) (hl : compGo (turnC cf is bind c e ρ) items = some l)
    {use : Option (Value → Sem Unit)} {Q : Value → Shared → Prop} {E : Value → Shared → Prop}
    (hRR : ∀ Da C F' s' m', Step cx F s F' s' → RepR cx F' s.heap s'.heap (.ref Da) (.own l) → s'.heap.Ns C m' → s.heap.get? C = none → ¬ F' C → C ≠ Da → compPost (model cx.prog cx.w) A E use Q (.ref Da) C (.ok .next) s') :
    wpAny (model cx.prog cx.w) A (comprehension (.ListComp elt [⟨tg, iter, ifs, 0⟩] scope pos) scope env cpos (newList []) false (eval iter env) use) Q E s := by
  obtain ⟨cl, hclos, h1, h2⟩ := H.env.closure ok
  refine wpAny_comprehension_free rfl (hs env) hclos ok.kind ok.names (hi n cf A env F s ρ ad m cm H items hit _ _ fun I F1 s1 fp wr P St J => ?_)
  refine wpAny_newObj_type (wpAny_newFunctionEnv ok.nocell (by intro y hy; simp at hy) (fun h₁ hns₁ hsb₁ => ?_) ok.kind)
  dsimp only at hns₁ hsb₁ ⊢
  generalize hH2 : s1.heap.push { cls := .type "list", dict := none, data := .seq ([] : List Value).toArray } = H2 at hns₁ hsb₁ ⊢
  generalize hD : s1.heap.objs.size = Da
  generalize hCe : H2.objs.size = C at hns₁ hsb₁
  have hCD : C = Da + 1 := by rw [← hCe, ← hD, ← hH2, Heap.size_push]
  have hDC : C ≠ Da := by rw [hCD]; exact Nat.succ_ne_self Da
  have fr : ∀ a, Da ≤ a → s1.heap.get? a = none := fun a ha => by
    cases e : s1.heap.get? a with
    | none => rfl
    | some o' => exact absurd (hD ▸ Heap.lt_size e) (Nat.not_lt.mpr ha)
  have lt1 : ∀ b o, s1.heap.get? b = some o → b ≠ C ∧ b ≠ Da := fun b o e => ⟨Nat.ne_of_lt (by rw [hCD]; exact Nat.lt_succ_of_lt (hD ▸ Heap.lt_size e)), Nat.ne_of_lt (hD ▸ Heap.lt_size e)⟩
  have old : ∀ b o, s1.heap.get? b = some o → h₁.get? b = some o := fun b o e => hsb₁.extBut b o (lt1 b o e).1 (Heap.get?_push_of_some _ (hH2 ▸ Heap.get?_push_of_some _ e))
  have hacc : h₁.get? Da = some (lobj ([] : List Value).toArray 0) := hsb₁.extBut _ _ hDC.symm (Heap.get?_push_of_some _ (by rw [← hH2, ← hD]; exact Heap.get?_push_size _ rfl))
  have frD := fr Da (Nat.le_refl _)
  have frC := fr C (by rw [hCD]; exact Nat.le_succ Da)
  have xD : ¬ cx.X Da := J.st.wd.newNotX frD
  have xC : ¬ cx.X C := J.st.wd.newNotX frC
  have frD0 : s.heap.get? Da = none := J.st.fresh xD frD
  have frC0 : s.heap.get? C = none := J.st.fresh xC frC
  have st1 : Step cx F s F1 { s1 with heap := h₁, toks := s1.toks + ([] : List (Str × Value)).length } := J.st.trans (Step.grown H.ok J.st.wd _ old)
  have loop : ∀ s₃ : Shared, s₃ = { s1 with heap := h₁, toks := s1.toks + ([] : List (Str × Value)).length } →
      codeAny (model cx.prog cx.w) A (.compLoop (.ListComp elt [⟨tg, iter, ifs, 0⟩] scope pos) 0 (.ref I) (.ref Da) (compEnvC scope cl C env)) (compPost (model cx.prog cx.w) A E use Q (.ref Da) C) s₃ := by
    rintro s₃ rfl
    refine ziY (CoreI cx F s F1 s1.heap wr Da C St items l (compGo (turnC cf is bind c e ρ))) (fun k s' hI => ?_) items.length
      ⟨0, F1, [], [], 0, _, Nat.zero_le _, rfl, st1, fun v d r => r.mono (fun _ h => h) fun a o _ e => old a o e, fun _ h => h, (J.W A H.bud.hd).frame _ _ _ J.s0 fun b _ o e => old b o e, fun b hb => (J.new b hb).2, J.st.wd.newNotF frD, J.st.wd.newNotF frC, hacc, .nil, Nat.le_refl _, hns₁, l, hl, rfl⟩
    obtain ⟨j, F', ys, ds, kk, m', hj, rfl, st', hrep, hF, hst, hwr, hnD, hnC, hD', hys, hyl, hns', rest, hgo, hrest⟩ := hI
    obtain ⟨o0, T0, gI, _, _⟩ := J.ty 0 _ J.s0
    have hwI : ∀ b ∈ wr, b ≠ C ∧ b ≠ Da := fun b hb => by rw [J.one b hb]; exact lt1 I _ gI
    have dC : C ∉ wr := fun h => (hwI C h).1 rfl
    have dD : Da ∉ wr := fun h => (hwI Da h).2 rfl
    have hwn : ∀ b, b ∈ wr → s.heap.get? b = none ∧ ¬ F' b := fun b hb => ⟨(J.new b hb).1, hwr b hb⟩
    have xwr : ∀ b ∈ wr, ¬ cx.X b := fun b hb h => by
      obtain ⟨o, e⟩ := H.wd.xex b h
      rw [(J.new b hb).1] at e; cases e
    rcases Nat.lt_or_ge j items.length with hlt | hge
    · refine (J.W A H.bud.hd).item j s' _ _ hlt hst fun v h' tk hP hst' hk => ?_
      have st2 := st'.kept H.ok H.wd (wr := (· ∈ wr)) hwn tk hk
      obtain ⟨d, hd, hr⟩ := J.item j v hP
      have hdrop : items.drop j = d :: items.drop (j + 1) := by
        have h1 : items[j]? = some items[j] := List.getElem?_eq_getElem hlt
        rw [h1] at hd
        cases hd
        exact List.drop_eq_getElem_cons hlt
      rw [hdrop] at hgo
      obtain ⟨dv, hdv, hturn⟩ := zmd hgo
      obtain ⟨ob, T, g1, g2, g3⟩ := J.ty _ _ hst'
      have keepF : ∀ a o, F' a → s'.heap.get? a = some o → h'.get? a = some o := fun a o f e => hk a o (fun hm => hwr a hm f) e
      have hr2 : ∀ v d, Rep cx.T F1 s1.heap v d → Rep cx.T F' h' v d := fun v d hr => (hrep v d hr).mono (fun _ h => h) keepF
      refine zj8 (s := { s' with heap := h', toks := tk }) g1 g2 g3 ?_
      have hnC' : h'.Ns C m' := hns'.at' fun o e => hk C o dC e
      refine hT A F' { s' with heap := h', toks := tk } (compEnvC scope cl C env) C m' v d dv H.ok st2.wd H.bud.hd rfl (fun x hx => lookup_relabel_local (ok.xl x hx)) (by simp [compEnvC, relabel, ok.kind]) hnC' hnC (hr2 v d hr) hdv _ _ fun h3 tk3 vs3 hk3 hns3 hr3 => ?_
      have st3 : Step cx F s F' { s' with heap := h3, toks := tk3 } := st2.kept H.ok H.wd (wr := (· = C)) (fun b hb => by subst hb; exact ⟨frC0, hnC⟩) tk3 hk3
      have keep3 : ∀ a o, F' a → s'.heap.get? a = some o → h3.get? a = some o := fun a o f e => hk3 a o (fun e => hnC (e ▸ f)) (keepF a o f e)
      have H3 : Here cx (compSc ε scope (xs.zip is)) n cf A (compEnvC scope cl C env) F' { s' with heap := h3, toks := tk3 } (setAll ρ is dv) ad (updL m' xs vs3) cm :=
        ⟨H.ok, H.calls, H.bud, st3.wd, (H.step st3).env.comp ok h1 h2 xC hns3 (hb d dv hdv) hr3⟩
      have hst3 : St (j + 1) h3 := (J.W A H.bud.hd).frame _ _ _ hst' fun b hb o e => hk3 b o (by
        rcases J.deps b hb with h | h
        · exact (hwI b h).1
        · exact fun e => hnC (e ▸ hF b h)) e
      have hD3 : h3.get? Da = some (lobj ys.toArray kk) := hk3 Da _ hDC.symm (hk Da _ dD hD')
      have later : ∀ {F4 s4}, Step cx F' { s' with heap := h3, toks := tk3 } F4 s4 → CoreL cx F1 s1.heap wr Da C St (j + 1) ys ds kk (updL m' xs vs3) F4 s4.heap := by
        intro F4 s4 y
        have isC : ∃ o, h3.get? C = some o := by obtain ⟨o, _, _, e, _⟩ := hns3; exact ⟨o, e⟩
        obtain ⟨oC, eC⟩ := isC
        obtain ⟨ob3, T3, g13, _, _⟩ := J.ty _ _ hst3
        refine ⟨fun v d q => y.rep H3.wd ((hr2 v d q).mono (fun _ h => h) fun a o f e => hk3 a o (fun e => hnC (e ▸ f)) e), fun a h => y.sub a (hF a h), (J.W A H.bud.hd).frame _ _ _ hst3 fun b hb o e => ?_, fun b hb => ?_, y.notF hnD hD3, y.notF hnC eC, y.keep _ _ hD3 xD, y.repL H3.wd (hys.mono (fun _ h => h) keep3), hns3.at' fun o e => y.keep _ o e xC⟩
        · rcases J.deps b hb with h | h
          · exact y.keep b o e (xwr b h)
          · exact y.keep b o e (H3.wd.nx b (hF b h))
        · exact y.notF (hwr b hb) (by rw [J.one b hb]; exact g13)
      cases hturn with
      | skip htr hgo' =>
        refine hc n cf A _ F' _ _ ad _ cm H3 false htr _ _ fun F4 s4 st4 => ?_
        obtain ⟨p1, p2, p3, p4, p5, p6, p7, p8, p9⟩ := later st4
        rw [if_neg (by decide)]
        exact ⟨items.length - (j + 1), Nat.sub_lt_sub_left hlt (Nat.lt_succ_self j), j + 1, F4, ys, ds, kk, _, hlt, rfl, st3.trans st4, p1, p2, p3, p4, p5, p6, p7, p8, by omega, p9, rest, hgo', hrest⟩
      | take r y ys' htr e1 e2 e4 e5 =>
          refine hc n cf A _ F' _ _ ad _ cm H3 true htr _ _ fun F4 s4 st4 => ?_
          rw [if_pos rfl]
          have H4 := H3.step st4
          refine he.ev n cf A _ F4 s4 _ ad _ cm H4 r e1 _ _ fun v5 F5 s5 st5 q5 => ?_
          obtain ⟨F6, st6, _, r6⟩ := st5.fz H.ok st4.wd q5 e2
          obtain ⟨p1, p2, p3, p4, p5, p6, p7, p8, p9⟩ := later (st4.trans st6)
          have hlen : ys.length < lim := by have := J.lim; omega
          refine wpAny_list_append_plain ⟨kk, p7⟩ (fun h7 hl7 sb7 => ?_) (by rw [List.size_toArray]; exact zbm (by omega))
          obtain ⟨k7, hl7⟩ := hl7
          have e7 : ys.toArray.push v5 = (ys ++ [v5]).toArray := by simp
          rw [e7] at hl7
          have st7 : Step cx F s F6 { s5 with heap := h7, toks := s5.toks } := (st3.trans (st4.trans st6)).kept H.ok H.wd (wr := (· = Da)) (fun b hb => by subst hb; exact ⟨frD0, p5⟩) s5.toks fun a o h e => (sb7.2 a h).trans e
          have keep7 : ∀ a o, F6 a → s5.heap.get? a = some o → h7.get? a = some o := fun a o f e => (sb7.2 a fun e => p5 (e ▸ f)).trans e
          refine ⟨items.length - (j + 1), Nat.sub_lt_sub_left hlt (Nat.lt_succ_self j), j + 1, F6, ys ++ [v5], ds ++ [y], k7, _, hlt, rfl, st7, fun v d q => (p1 v d q).mono (fun _ h => h) keep7, p2, (J.W A H.bud.hd).frame _ _ _ p3 fun b hb o e => (sb7.2 b ?_).trans e, p4, p5, p6, hl7, (p8.append (.cons r6 .nil)).mono (fun _ h => h) keep7, by rw [List.length_append]; simp; omega, p9.sameBut sb7 hDC, ys', e4, by rw [hrest, e5]; simp⟩
          rcases J.deps b hb with h | h
          · exact (hwI b h).2
          · exact fun e => p5 (e ▸ p2 b h)
    · have ej : j = items.length := Nat.le_antisymm (by assumption) (by assumption)
      subst ej
      rw [List.drop_length] at hgo
      cases hgo
      refine (J.W A H.bud.hd).done s' _ _ hst fun h' tk hk => ?_
      have st2 := st'.kept H.ok H.wd (wr := (· ∈ wr)) hwn tk hk
      have keepF : ∀ a o, F' a → s'.heap.get? a = some o → h'.get? a = some o := fun a o f e => hk a o (fun hm => hwr a hm f) e
      refine hRR Da C F' _ m' st2 ?_ (hns'.at' fun o e => hk C o dC e) frC0 hnC hDC
      rw [hrest, List.append_nil]
      exact .own frD0 hnD xD (hk Da _ dD hD') (by have := J.lim; omega) (hys.mono (fun _ h => h) keepF)
  exact codeAny_compStart_list (loop _ rfl) ((J.W A H.bud.hd).self 0 _ _ _ ((J.W A H.bud.hd).frame _ _ _ J.s0 fun b _ o e => old b o e) (loop _ rfl))
end
end Mine
end MpVx
section MpWx
open PySem PySem.Calls PyProof.Rows PySem.Builtin.Str
namespace Mine
section
variable {cx : XCx} {ε : Sc}
theorem zhI {elt iter tg : Expr} {ifs : List Expr} {scope : Scope} {pos : Pos} {xs : List Str} {is : List Nat} {bind : D → Option (List D)} {c e it : X}
    (hT : TargetC cx tg xs bind) (hb : ∀ d ds, bind d = some ds → ds.length = is.length) (hi : SoundI cx ε iter it) (ok : CompOK ε scope xs is) (hc : Tests cx (compSc ε scope (xs.zip is)) ifs c) (he : Sound cx (compSc ε scope (xs.zip is)) elt e)
    (hs : ∀ env x, foldedSetIterable iter env x = pure x)
    {n cf A env F s ρ ad m cm} (H : Here cx ε n cf A env F s ρ ad m cm) {items l : List D} (hit : evI cf it ρ = some items) (hl : compGo (turnC cf is bind c e ρ) items = some l)
    {Q : Value → Shared → Prop} {E : Value → Shared → Prop} (hQ : Post cx F s (.own l) Q) :
    wpAny (model cx.prog cx.w) A (eval (.ListComp elt [⟨tg, iter, ifs, 0⟩] scope pos) env) Q E s := by
  rw [eval_ListComp]
  refine ziX (use := none) hT hb hi ok hc he hs H hit hl fun Da C F' s' m' st q hn frC nC hne => ?_
  refine ⟨m', hn, fun h'' sb => ?_⟩
  have st2 : Step cx F s F' { s' with heap := h'' } := st.kept H.ok H.wd (wr := (· = C)) (fun b hb => by subst hb; exact ⟨frC, nC⟩) s'.toks fun a o h e => (sb.2 a h).trans e
  refine hQ _ F' _ st2 ?_
  cases q with
  | own lo nf nx g z q => exact .own lo nf nx ((sb.2 Da hne.symm).trans g) z (q.mono (fun _ h => h) fun a o f e => (sb.2 a fun e => nC (e ▸ f)).trans e)
theorem zjH {cf : Nat → List D → Option D} {i : Nat} {it c e : X} {ρ : List Slot} {r : R} (h : ev cf (.comp i it c e) ρ = some [r]) : ∃ items l, evI cf it ρ = some items ∧ compGo (turnC cf [i] one1 c e ρ) items = some l ∧ r = .own l := by
  replace h := (zaZ _).symm.trans h
  split at h
  · rename_i items e1
    obtain ⟨l, e2, e3⟩ := Option.map_eq_some_iff.mp h
    cases e3
    refine ⟨items, l, by unfold evI; rw [e1], e2, rfl⟩
  · cases h
theorem zkj {cf : Nat → List D → Option D} {i j : Nat} {it c e : X} {ρ : List Slot} {r : R} (h : ev cf (.comp2 i j it c e) ρ = some [r]) : ∃ items l, evI cf it ρ = some items ∧ compGo (turnC cf [i, j] two2 c e ρ) items = some l ∧ r = .own l := by
  replace h := (zaK _).symm.trans h
  split at h
  · rename_i items e1
    obtain ⟨l, e2, e3⟩ := Option.map_eq_some_iff.mp h
    cases e3
    refine ⟨items, l, by unfold evI; rw [e1], ?_, rfl⟩
    rw [← e2]
    congr 1
    funext d
    unfold turnC two2
    split
    · rename_i ds q
      split at q <;> cases q
      rfl
    · rename_i q
      split at q
      · cases q
      · rename_i hne
        first
        | rfl
        | (split
           · exact absurd rfl (hne _ _)
           · rfl)
  · cases h
set_option genInjectivity false in
structure CompX (cx : XCx) (ε : Sc) (elt iter tg : Expr) (ifs : List Expr) (scope : Scope) (xs : List Str) (is : List Nat) (bind : D → Option (List D)) (it c e : X) : Prop where
  hT : TargetC cx tg xs bind
  hb : ∀ d ds, bind d = some ds → ds.length = is.length
  hi : SoundI cx ε iter it
  ok : CompOK ε scope xs is
  hc : Tests cx (compSc ε scope (xs.zip is)) ifs c
  he : Sound cx (compSc ε scope (xs.zip is)) elt e
  hs : ∀ env x, foldedSetIterable iter env x = pure x
theorem zkw {elt iter tg : Expr} {ifs : List Expr} {scope : Scope} {pos : Pos} {x : Str} {i : Nat} {it c e : X} (h : CompX cx ε elt iter tg ifs scope [x] [i] one1 it c e) :
    Sound cx ε (.ListComp elt [⟨tg, iter, ifs, 0⟩] scope pos) (.comp i it c e) := by
  refine Sound.ofE ?_ fun _ => rfl
  intro n cf A env F s ρ ad m cm H r hr Q E hQ
  obtain ⟨items, l, e1, e2, rfl⟩ := zjH hr
  exact zhI h.hT h.hb h.hi h.ok h.hc h.he h.hs H e1 e2 hQ
theorem zdI {elt iter tg : Expr} {ifs : List Expr} {scope : Scope} {pos : Pos} {x y : Str} {i j : Nat} {it c e : X} (h : CompX cx ε elt iter tg ifs scope [x, y] [i, j] two2 it c e) :
    Sound cx ε (.ListComp elt [⟨tg, iter, ifs, 0⟩] scope pos) (.comp2 i j it c e) := by
  refine Sound.ofE ?_ fun _ => rfl
  intro n cf A env F s ρ ad m cm H r hr Q E hQ
  obtain ⟨items, l, e1, e2, rfl⟩ := zkj hr
  exact zhI h.hT h.hb h.hi h.ok h.hc h.he h.hs H e1 e2 hQ
theorem ziW {elt iter tg : Expr} {ifs : List Expr} {scope : Scope} {pos spos py : Pos} {xs : List Str} {is : List Nat} {bind : D → Option (List D)} {c e it : X} {y : Str} {j : Nat} (h : CompX cx ε elt iter tg ifs scope xs is bind it c e)
    (hy : ε.vars.lookup y = some j) (hf : ε.kinds.lookup y ≠ some .free) (hs : ∀ env : Env, env.scope.kind = .function → env.scope.names = ε.kinds → swapsWith (.ListComp elt [⟨tg, iter, ifs, 0⟩] scope pos) (some (.Name y py)) spos.line env = pure true)
    {n cf A env F s ρ ad m cm} (H : HereS cx ε n cf A env F s ρ ad m cm) {items l : List D} (hit : evI cf it ρ = some items) (hl : compGo (turnC cf is bind c e ρ) items = some l)
    (own : Bool) (hna : own = true → noApp j ρ = true) {Q : Flow → Shared → Prop} {E : Value → Shared → Prop} (hQ : PostS cx ε env F s ρ ad (ρ.set j (if own then .own l else .val (.list l))) .next Q) :
    wpAny (model cx.prog cx.w) A (exec (.Assign [.Name y py] (.ListComp elt [⟨tg, iter, ifs, 0⟩] scope pos) spos) env) Q E s := by
  rw [exec_Assign_Name_used _ _ _ _ (hs env H.frm.en.kind H.frm.en.names)]
  refine wpAny_bind (wpAny_standAt (wpAny_bind ?_))
  show wpAny _ A (do let _ ← comprehension (.ListComp elt [⟨tg, iter, ifs, 0⟩] scope pos) scope env _ (newList []) false (eval iter env) (some (assign (.Name y py) env))) _ _ s
  refine wpAny_bind (ziX (use := some (assign (.Name y py) env)) h.hT h.hb h.hi h.ok h.hc h.he h.hs H.here hit hl fun Da C F' s' m' st q hn frC nC hne => ?_)
  show wpAny _ A (assign (.Name y py) env (.ref Da)) _ _ _
  refine wpAny_assign_Name ?_
  have nm : ∀ {a}, s.heap.get? a = none → ¬ Mut env ρ ad a := fun e hm => by
    obtain ⟨o, e'⟩ := H.frm.isSome hm
    rw [e] at e'; cases e'
  cases q with
  | @own _ vs k _ lo nf nx g z q =>
  have fin : ∀ {F'' : Addr → Prop} {sl : Slot} {ad' : Nat → Addr} {s'' : Shared} {m'' cm'' : Str → Option Value}, sl = (if own then Slot.own l else .val (.list l)) → (∀ l', sl = .own l' → ad' j = Da) → (∀ i, i ≠ j → ad' i = ad i) → StepS cx env F s ρ ad F'' s'' (ρ.set j sl) ad' → Frm cx ε env F'' s'' (ρ.set j sl) ad' m'' cm'' → ¬ F'' C → s''.heap.Ns C m' →
      ∃ m, s''.heap.Ns C m ∧ ∀ h', Heap.SameBut C s''.heap h' → wpAny (model cx.prog cx.w) A (pure PUnit.unit) (fun _ s' => wpAny (model cx.prog cx.w) A (pure Flow.next) Q E s') E { s'' with heap := h' } := by
    intro F'' sl ad' s'' m'' cm'' hsl hDa had x f nF hn'
    refine ⟨m', hn', fun h' sb => wpAny_pure (wpAny_pure ?_)⟩
    have nM : ¬ Mut env (ρ.set j sl) ad' C := fun hm => by
      rcases hm with h | h | ⟨i, l', hi, rfl⟩
      · exact nm frC (.inl h)
      · exact nm frC (.inr (.inl h))
      · rw [zbN] at hi
        by_cases e : i = j
        · subst e
          rw [if_pos rfl] at hi
          split at hi
          · exact hne (hDa l' hi)
          · cases hi
        · rw [if_neg e] at hi
          rw [had i e] at frC
          exact nm frC (.inr (.inr ⟨i, l', hi, rfl⟩))
    obtain ⟨x2, f2⟩ := x.kept H.ok H.wd f (wr := [C]) (fun b hb => by simp only [List.mem_cons, List.not_mem_nil, or_false] at hb; subst hb; exact ⟨frC, nF, nM⟩) (h' := h') s''.toks (fun a o hm e => (sb.2 a (by simpa using hm)).trans e)
    rw [hsl] at x2 f2
    exact hQ .next F'' _ ad' m'' cm'' x2 f2 .next
  cases own with
  | false =>
    have st2 := st.freeze H.ok H.wd lo g
    refine zfr H st2 hy hf (sl := .val (.list l)) (ad' := ad) (fun _ _ => rfl) (.inl rfl) (fun h' hk => .val (.list (.inr rfl) (hk Da _ (.inl (.inr rfl)) g) z (q.mono (fun _ h => .inl h) fun a o f e => hk a o (.inl (.inl f)) e))) (fun _ e => nomatch e) fun s'' m'' cm'' hk x f => ?_
    exact fin (sl := .val (.list l)) (by rw [if_neg (by decide)]) (fun _ e => nomatch e) (fun _ _ => rfl) x f (fun h => h.elim nC hne) (hn.at' fun o e => hk C o (nm frC) e)
  | true =>
    refine zfr H st hy hf (sl := .own l) (ad' := fun i => if i = j then Da else ad i) (fun i hi => if_neg hi) (.inr (zj6 (hna rfl))) (fun h' hk => ?_) (fun l' _ => ?_) fun s'' m'' cm'' hk x f => ?_
    · have : SlotRep cx F' h' (fun i => if i = j then Da else ad i) j (some (.ref ((fun i => if i = j then Da else ad i) j))) (.own l) := by
        refine .own (vs := vs) (n := k) ?_ ?_ ?_ z (q.mono (fun _ h => h) fun b o f e => hk b o (.inl f) e) <;> simp only [if_true]
        · exact nf
        · exact nx
        · exact hk Da _ (.inr (nm lo)) g
      simpa using this
    · simp only [if_true]
      exact ⟨lo, nf, nx, _, _, g⟩
    · exact fin (sl := .own l) (ad' := fun i => if i = j then Da else ad i) (by rw [if_pos rfl]) (fun _ _ => if_pos rfl) (fun i hi => if_neg hi) x f nC (hn.at' fun o e => hk C o (nm frC) e)
theorem zl7 {cf : Nat → List D → Option D} {x : X} {ρ : List Slot} {d : D} (h : ev1 cf x ρ = some d) {P : List D → Prop} (hp : ∀ r, ev cf x ρ = some [r] → ∃ l, r = .own l ∧ P l) : ∃ l, d = .list l ∧ P l := by
  obtain ⟨r, e1, e2⟩ := zjI h
  obtain ⟨l, rfl, p⟩ := hp r e1
  cases e2
  exact ⟨l, rfl, p⟩
theorem zdm {elt iter tg : Expr} {ifs : List Expr} {scope : Scope} {pos spos py : Pos} {x y : Str} {i j : Nat} {it c e : X} (h : CompX cx ε elt iter tg ifs scope [x] [i] one1 it c e)
    (hy : ε.vars.lookup y = some j) (hf : ε.kinds.lookup y ≠ some .free) (hs : ∀ env : Env, env.scope.kind = .function → env.scope.names = ε.kinds → swapsWith (.ListComp elt [⟨tg, iter, ifs, 0⟩] scope pos) (some (.Name y py)) spos.line env = pure true) :
    SoundS cx ε (.Assign [.Name y py] (.ListComp elt [⟨tg, iter, ifs, 0⟩] scope pos) spos) (.assign j (.comp i it c e)) := by
  intro n cf A env F s ρ ad m cm H ρ' o he Q E hQ
  replace he := (zej cf).symm.trans he
  obtain ⟨d, hd, e'⟩ := Option.map_eq_some_iff.mp he
  cases e'
  obtain ⟨l, rfl, items, e1, e2⟩ := zl7 (P := fun l => ∃ items, evI cf it ρ = some items ∧ compGo (turnC cf [i] one1 c e ρ) items = some l) hd fun r hr => by
    obtain ⟨items, l, e1, e2, e3⟩ := zjH hr
    exact ⟨l, e3, items, e1, e2⟩
  exact ziW h hy hf hs H e1 e2 false (fun e => nomatch e) (by rw [if_neg (by decide)]; exact hQ)
end
end Mine
end MpWx
section MpXx
open PySem PySem.Calls PyProof.Rows PySem.Builtin.Str
namespace Mine
theorem zi0 {kindOf : Str → Option NameKind} {x : Str} : ∀ {ps : List Str} {vs : List Value} {m : Str → Option Value}, x ∉ ps → bindL kindOf (ps.zip vs) m x = m x
  | [], _, _, _ => rfl
  | _ :: _, [], _, _ => rfl
  | n :: ps, v :: vs, m, h => by
    rw [List.zip_cons_cons]
    unfold bindL
    rw [zi0 fun h' => h (List.mem_cons_of_mem _ h')]
    split
    · exact if_neg fun (e : x = n) => h (by rw [e]; exact List.mem_cons_self)
    · rfl
theorem zim {kindOf : Str → Option NameKind} {x : Str} {v : Value} (hk : kindOf x = some .local) : ∀ {ps : List Str} {vs : List Value} {m : Str → Option Value} {k : Nat}, ps.Nodup → ps[k]? = some x → vs[k]? = some v → bindL kindOf (ps.zip vs) m x = some v
  | [], _, _, _, _, h, _ => nomatch h
  | _ :: _, [], _, _, _, _, h => nomatch h
  | n :: ps, v' :: vs, m, k, hn, h1, h2 => by
    obtain ⟨n1, hn'⟩ := List.nodup_cons.mp hn
    rw [List.zip_cons_cons]
    unfold bindL
    cases k with
    | zero =>
      simp only [List.getElem?_cons_zero, Option.some.injEq] at h1 h2
      subst h1; subst h2
      rw [zi0 n1, if_pos hk]
      exact if_pos rfl
    | succ k =>
      simp only [List.getElem?_cons_succ] at h1 h2
      exact zim hk hn' h1 h2
theorem zi1 {kindOf : Str → Option NameKind} {x : Str} : ∀ {ps : List Str} {vs : List Value} {m : Str → Option Value}, x ∉ ps → bindC kindOf (ps.zip vs) m x = m x
  | [], _, _, _ => rfl
  | _ :: _, [], _, _ => rfl
  | n :: ps, v :: vs, m, h => by
    rw [List.zip_cons_cons]
    unfold bindC
    rw [zi1 fun h' => h (List.mem_cons_of_mem _ h')]
    split
    · rfl
    · exact if_neg fun (e : x = n) => h (by rw [e]; exact List.mem_cons_self)
theorem zin {kindOf : Str → Option NameKind} {x : Str} {v : Value} (hk : kindOf x ≠ some .local) : ∀ {ps : List Str} {vs : List Value} {m : Str → Option Value} {k : Nat}, ps.Nodup → ps[k]? = some x → vs[k]? = some v → bindC kindOf (ps.zip vs) m x = some v
  | [], _, _, _, _, h, _ => nomatch h
  | _ :: _, [], _, _, _, _, h => nomatch h
  | n :: ps, v' :: vs, m, k, hn, h1, h2 => by
    obtain ⟨n1, hn'⟩ := List.nodup_cons.mp hn
    rw [List.zip_cons_cons]
    unfold bindC
    cases k with
    | zero =>
      simp only [List.getElem?_cons_zero, Option.some.injEq] at h1 h2
      subst h1; subst h2
      rw [zi1 n1, if_neg hk]
      exact if_pos rfl
    | succ k =>
      simp only [List.getElem?_cons_succ] at h1 h2
      exact zin hk hn' h1 h2
theorem zca {x : Str} : ∀ {names : List (Str × NameKind)} {n : Nat} {acc : List (Str × Addr)}, (acc.lookup x).isSome ∨ (x, NameKind.cell) ∈ names → ((cellsFrom n names acc).lookup x).isSome
  | [], n, acc, h => by
    unfold cellsFrom
    rcases h with h | h
    · exact h
    · cases h
  | (y, k) :: r, n, acc, h => by
    unfold cellsFrom
    split
    · rename_i hk
      refine zca ?_
      rw [List.lookup_cons]
      cases hx : x == y with
      | true => exact .inl rfl
      | false =>
        rcases h with h | h
        · exact .inl h
        · rcases List.mem_cons.mp h with e | h
          · cases e; simp at hx
          · exact .inr h
    · rename_i hk
      refine zca (h.imp id fun h => ?_)
      rcases List.mem_cons.mp h with e | h
      · cases e; simp at hk
      · exact h
noncomputable def boundTo (fn : Fn) (args : List D) : Option (List D) :=
  if fn.va then (if fn.np ≤ args.length ∧ args.length ≤ lim then some (args.take fn.np ++ [.tup (args.drop fn.np)]) else none)
  else if args.length = fn.np then some args else none
noncomputable def BindOK (cx : XCx) (fd : FuncData) (fn : Fn) (ps : List Str) : Prop :=
  ∀ A F s vs args ds, CxOk cx → Wd cx F s → RepL cx.T F s.heap vs args → boundTo fn args = some ds → ∀ (Q : List (Str × Value) → Shared → Prop) (E : Value → Shared → Prop),
    (∀ F' s' vs', Step cx F s F' s' → RepL cx.T F' s'.heap vs' ds → Q (ps.zip vs') s') → wpAny (model cx.prog cx.w) A (bindArgs fd ⟨vs, []⟩) Q E s
set_option genInjectivity false in
structure FnIs (cx : XCx) (ε : Sc) (i : Nat) (fn : Fn) (fd : FuncData) (body : List Stmt) (ps : List Str) : Prop where
  obj : ∃ o, cx.h0.get? (cx.fa i) = some o ∧ o.data = .func fd
  nx : ¬ cx.X (cx.fa i)
  code : ∃ c, fd.code = .ref c ∧ ¬ cx.X c ∧ cx.h0.CodeRec (.ref c) fd.qualname
  body : fd.body = .stmts body
  codeAt : ∀ c q, ε.code = some (c, q) → fd.code = .ref c ∧ fd.qualname ++ ".<locals>." = q
  clo : fd.closure = []
  glob : fd.globals = mainGlobals
  blt : fd.builtins = builtinsNs
  co : fd.scope.isCoroutine = false
  gen : fd.scope.isGenerator = false
  kind : fd.scope.kind = .function
  names : fd.scope.names = ε.kinds
  bind : BindOK cx fd fn ps
  len : ∀ args ds, boundTo fn args = some ds → ds.length = ps.length
  nodup : ps.Nodup
  pv : ∀ (k : Nat) x, ps[k]? = some x → ε.vars.lookup x = some k
  vk : ∀ x j, ε.vars.lookup x = some j → ε.kinds.lookup x = some .local ∨ ε.kinds.lookup x = some .cell
  sc : ScOK ε
theorem zg2 {fn : Fn} {args : List D} {ρ : List Slot} (h : bindD fn args = some ρ) : ∃ ds k, boundTo fn args = some ds ∧ ρ = ds.map .val ++ List.replicate k .unset := by
  unfold bindD at h
  unfold boundTo
  split at h
  · split at h <;> cases h
    rename_i h1 h2
    rw [if_pos h1, if_pos h2]
    exact ⟨_, fn.ns - fn.np - 1, rfl, by simp⟩
  · split at h <;> cases h
    rename_i h1 h2
    rw [if_neg h1, if_pos h2]
    exact ⟨_, _, rfl, rfl⟩
theorem zdc {ds : List D} {k j : Nat} : slotAt (ds.map .val ++ List.replicate k .unset) j = (match ds[j]? with | some d => .val d | none => .unset) := by
  unfold slotAt
  rw [List.getD_eq_getElem?_getD, List.getElem?_append]
  split
  · rename_i h
    rw [List.getElem?_map]
    rw [List.length_map] at h
    rw [List.getElem?_eq_getElem h]
    rfl
  · rename_i h
    rw [List.length_map] at h
    rw [List.getElem?_eq_none (Nat.le_of_not_lt h), List.getElem?_replicate]
    split <;> rfl
section
variable {cx : XCx}
theorem znf {d n : Nat} (h : d + (n + 1) < 890) : d + 1 + n < 890 := by omega
theorem zne {u n : Nat} (h : u + 10 * (n + 1) + 200 < 9900) : u + 3 + 10 * n + 200 < 9900 := by omega
theorem zmh {ε : Sc} {i : Nat} {fn : Fn} {fd : FuncData} {body : List Stmt} {ps : List Str} (X : FnIs cx ε i fn fd body ps) (hs : SoundSs cx ε body fn.body) (ok : CxOk cx) {n : Nat} {cf : Nat → List D → Option D} (hc : CallOK cx n cf)
    {args : List D} {ρ ρ' : List Slot} {o : Out} {d : D} (hb : bindD fn args = some ρ) (he : ex cf fn.body ρ = some (ρ', o)) (hd : o = .ret d ∨ (o = .next ∧ d = .none))
    {A : Around} {F : Addr → Prop} {s : Shared} {vs : List Value} (bud : Bud (n + 1) A) (w : Wd cx F s) (q : RepL cx.T F s.heap vs args) {Rs : Result → Shared → Prop}
    (hR : ∀ v F' s', Step cx F s F' s' → Rep cx.T F' s'.heap v d → Rs (.ok (.ret v)) s') : codeAny (model cx.prog cx.w) A (.call (.ref (cx.fa i)) ⟨vs, []⟩) Rs s := by
  obtain ⟨ob, g, hfd⟩ := X.obj
  obtain ⟨c, hcode, ncx, hcd⟩ := X.code
  obtain ⟨ds, kk, hbd, rfl⟩ := zg2 hb
  have hroom : A.depth < recursionLimit := Nat.lt_of_le_of_lt (Nat.le_add_right _ _) (Nat.lt_trans bud.dp (by decide))
  refine codeAny_call_function hroom (w.base _ _ g X.nx) hfd X.co X.gen X.body (by rw [hcode]; exact hcd.at fun o e => w.base _ o e ncx) ?_
  refine X.bind A.in1 F s vs args ds ok w q hbd _ _ fun F₁ s₁ vs' st₁ q₁ => ?_
  rw [X.clo]
  have hlen : ds.length = ps.length := X.len _ _ hbd
  have hvl : vs'.length = ps.length := q₁.length.trans hlen
  have kindOf : ∀ x, (callEnvC fd s₁.heap.objs.size (cx.fa i)).kindOf x = ε.kinds.lookup x := fun x => by show fd.scope.names.lookup x = _; rw [X.names]
  have inps : ∀ x ∈ ps, ∃ k, ps[k]? = some x := fun x hx => by
    obtain ⟨k, hk, e⟩ := List.mem_iff_getElem.mp hx
    exact ⟨k, by rw [List.getElem?_eq_getElem hk, e]⟩
  have hkind : ∀ x ∈ ps.zip vs', fd.scope.names.lookup x.1 = some .local ∨ (fd.scope.names.lookup x.1 = some .cell ∧ ((cellsFrom (s₁.heap.objs.size + 1) fd.scope.names []).lookup x.1).isSome = true) := by
    intro x hx
    obtain ⟨k, hk⟩ := inps x.1 (List.of_mem_zip hx).1
    rw [X.names]
    rcases X.vk x.1 k (X.pv k x.1 hk) with h | h
    · exact .inl h
    · exact .inr ⟨h, zca (.inr (zbO h))⟩
  refine wpAny_newFunctionEnv_cells X.kind hkind fun env hen s₂ ic => ?_
  have hen' : env = callEnvC fd s₁.heap.objs.size (cx.fa i) := hen
  subst hen'
  obtain ⟨h₂, tk₂, rfl⟩ := ic.toInCall.same
  have keep₂ := ic.toInCall.keep
  have st₂ : Step cx F₁ s₁ F₁ { s₁ with heap := h₂, toks := tk₂ } := Step.grown ok st₁.wd tk₂ keep₂
  have w₂ := st₂.wd
  refine ⟨w₂.lim ok, codeAny_func ?_⟩
  let E₀ : Env := callEnvC fd s₁.heap.objs.size (cx.fa i)
  let m₀ : Str → Option Value := bindL E₀.kindOf (ps.zip vs') fun _ => none
  let cm₀ : Str → Option Value := bindC E₀.kindOf (ps.zip vs') fun _ => none
  have frL : s₁.heap.get? s₁.heap.objs.size = none := zbt _
  have frC : ∀ n c, E₀.cells.lookup n = some c → s₁.heap.get? c = none ∧ c ≠ s₁.heap.objs.size := fun n c hc => by
    have hlt : s₁.heap.objs.size < c := ic.above n c (mem_of_lookup hc)
    refine ⟨?_, Nat.ne_of_gt hlt⟩
    cases e : s₁.heap.get? c with
    | none => rfl
    | some o => exact absurd (Heap.lt_size e) (Nat.not_lt.mpr (Nat.le_of_lt hlt))
  have noOwn : ∀ j l, slotAt (ds.map Slot.val ++ List.replicate kk .unset) j ≠ .own l := fun j l e => by
    rw [zdc] at e
    split at e <;> cases e
  have fresh₀ : ∀ a, Mut E₀ (ds.map Slot.val ++ List.replicate kk .unset) (fun _ => 0) a → s₁.heap.get? a = none := fun a h => by
    rcases h with rfl | ⟨n, hn⟩ | ⟨j, l, hj, _⟩
    · exact frL
    · exact (frC n a hn).1
    · exact absurd hj (noOwn j l)
  have slots : ∀ x j, ε.vars.lookup x = some j → (ε.kinds.lookup x = some .local ∧ SlotRep cx F₁ h₂ (fun _ => 0) j (m₀ x) (slotAt (ds.map Slot.val ++ List.replicate kk .unset) j)) ∨
      ((ε.kinds.lookup x = some .cell ∨ ε.kinds.lookup x = some .free) ∧ (∃ c, E₀.cells.lookup x = some c) ∧ SlotRep cx F₁ h₂ (fun _ => 0) j (cm₀ x) (slotAt (ds.map Slot.val ++ List.replicate kk .unset) j)) := by
    intro x j hx
    have look : ∀ dj, ds[j]? = some dj → ps[j]? = some x ∧ ∃ v, vs'[j]? = some v ∧ Rep cx.T F₁ h₂ v dj := fun dj hj => by
      obtain ⟨v, hv, r⟩ := q₁.get hj
      have hlt : j < ps.length := by rw [← hlen]; exact (List.getElem?_eq_some_iff.mp hj).1
      have hp : ps[j]? = some ps[j] := List.getElem?_eq_getElem hlt
      have := X.sc.inj x ps[j] j hx (X.pv j _ hp)
      exact ⟨by rw [hp, this], v, hv, st₂.rep st₁.wd r⟩
    rw [zdc]
    rcases X.vk x j hx with hk | hk
    · left
      refine ⟨hk, ?_⟩
      split
      · rename_i dj hj
        obtain ⟨hp, v, hv, r⟩ := look dj hj
        have : m₀ x = some v := zim (by rw [kindOf]; exact hk) X.nodup hp hv
        rw [this]
        exact .val r
      · exact .unset
    · right
      refine ⟨.inl hk, ?_, ?_⟩
      · refine Option.isSome_iff_exists.mp (zca (.inr ?_))
        rw [X.names]
        exact zbO hk
      · split
        · rename_i dj hj
          obtain ⟨hp, v, hv, r⟩ := look dj hj
          have : cm₀ x = some v := zin (by rw [kindOf, hk]; intro e; cases e) X.nodup hp hv
          rw [this]
          exact .val r
        · exact .unset
  have fr : Frm cx ε E₀ F₁ { s₁ with heap := h₂, toks := tk₂ } (ds.map Slot.val ++ List.replicate kk .unset) (fun _ => 0) m₀ cm₀ := by
    refine ⟨⟨X.kind, X.names, X.glob, X.blt, X.codeAt, st₁.wd.newNotX frL, fun n c hc => st₁.wd.newNotX (frC n c hc).1, ic.toInCall.ns, ic.cell, slots⟩, st₁.wd.newNotF frL, fun n c hc => ⟨st₁.wd.newNotF (frC n c hc).1, (frC n c hc).2⟩, fun n n' c h h' => name_of_addr ic.apart (mem_of_lookup h) (mem_of_lookup h'), fun j _ l _ h => absurd h (noOwn j l), fun j l h => absurd h (noOwn j l)⟩
  have budE : BudE n (A.deeper E₀) := by
    obtain ⟨l, hl⟩ := bud.fs
    refine ⟨⟨bud.hd, znf bud.dp, zne bud.un, ⟨_, by show A.frames.map _ = _; rw [hl]; rfl⟩⟩, E₀, l, by show A.frames.map _ = _; rw [hl]; rfl, X.gen, X.co, X.blt, X.glob⟩
  refine hs n cf (A.deeper E₀) E₀ F₁ _ _ _ m₀ cm₀ ⟨ok, X.sc, hc, budE, w₂, fr⟩ ρ' o he _ _ fun f F' s' ad' m' cm' x fr' out => ?_
  have stF : Step cx F s F' s' := by
    refine st₁.trans ⟨fun a h => x.sub a h, fun a h => ?_, fun a o e nx => x.keep a o (keep₂ a o e) nx fun hm => ?_, x.os.trans rfl, x.wd⟩
    · rcases x.new a h with q | q | q
      · exact .inl q
      · right
        cases e : s₁.heap.get? a with
        | none => rfl
        | some o => rw [show ({ s₁ with heap := h₂, toks := tk₂ } : Shared).heap.get? a = some o from keep₂ a o e] at q; cases q
      · exact .inr (fresh₀ a q)
    · have := fresh₀ a hm
      rw [e] at this; cases this
  rcases hd with rfl | ⟨rfl, rfl⟩
  · cases out with
    | ret r => exact hR _ F' s' stF r
  · cases out
    exact hR _ F' s' stF .none
theorem zik (ok : CxOk cx) {fns : Nat → Option Fn} (h : ∀ i fn, fns i = some fn → ∃ ε fd body ps, FnIs cx ε i fn fd body ps ∧ SoundSs cx ε body fn.body) : ∀ n, CallOK cx n (callF fns n)
  | 0 => fun f args d e => by unfold callF at e; cases e
  | n + 1 => fun f args d e => by
    unfold callF at e
    split at e
    · cases e
    · rename_i fn hf
      obtain ⟨ε, fd, body, ps, X, hs⟩ := h f fn hf
      obtain ⟨o, g, hfd⟩ := X.obj
      refine ⟨⟨o, fd, g, hfd, X.nx⟩, fun A F s vs bud w q Rs hR => ?_⟩
      split at e
      · cases e
      · rename_i ρ hb
        split at e
        · rename_i ρ' d' he
          cases e
          exact zmh X hs ok (zik ok h n) hb he (.inl rfl) bud w q hR
        · rename_i ρ' he
          cases e
          exact zmh X hs ok (zik ok h n) hb he (.inr ⟨rfl, rfl⟩) bud w q hR
        · cases e
end
end Mine
end MpXx
section MpYx
open PySem PySem.Calls PyProof.Rows PySem.Builtin.Str
namespace Mine
set_option genInjectivity false in
structure TabG (cx : XCx) where
  d : Addr
  f : Int → Option Value
  nx : ¬ cx.X d
  hm : cx.h0.MapOf (intKind cx.prog cx.w) d f
  sys : (d == sysModules) = false
  yes : ∀ c : Nat, c < 128 → special.contains c = true → ∃ u, f (c : Int) = some (.str ⟨#[92, c]⟩ u)
  no : ∀ c : Nat, c < 128 → special.contains c = false → f (c : Int) = none
section
variable {cx : XCx} {ε : Sc}
theorem zgD (G : TabG cx) {o : Expr} {y : X} {x : Str} {p apos pos : Pos} (hb : plainBase o = true) (hl : (apos.endLine == pos.line) = true) (h : Sound cx ε o y) (hk : ε.kinds.lookup x = some .globalImplicit) (hv : cx.mg x = some (.ref G.d)) (hd : (x == ("__debug__" : Str)) = false) :
    Sound cx ε (.Call (.Attribute o "translate" apos) [.Name x p] [] pos) (.op .translate (.cons y .nil)) := by
  refine Sound.ofE ?_ fun _ => rfl
  intro n cf A env F s ρ ad m cm H res he Q E hQ
  obtain ⟨rs, e1, e2⟩ := ev_op he
  obtain ⟨r0, rs', e3, e4, rfl⟩ := zaW e1
  cases zdf e4
  refine zeh hb hl (by simp) rfl ?_
  refine h.ev n cf A env F s ρ ad m cm H r0 e3 _ _ fun v F' s' st q => ?_
  simp only [List.map_cons, List.map_nil] at e2; delta opF at e2; dsimp only at e2
  unfold opTranslate at e2
  split at e2
  · rename_i c ec
    split at e2 <;> cases e2
    rename_i hc
    have qb := q.brep
    have ec' : r0.ds = .str [c] := by
      have := ec
      simpa using this
    rw [ec'] at qb
    obtain ⟨t, rfl, pp, z⟩ := qb.str_inv
    have noref : ∀ a, Value.str ⟨[c].toArray⟩ t = .ref a → ∃ o, s'.heap.get? a = some o ∧ o.dict = none := fun _ e => nomatch e
    with_reducible refine GM.of (.str ⟨[c].toArray⟩ t) (typeIs_str _ _ _) PySem.F.slot_str_translate PySem.F.type_str_translate noref ?_
    have H1 := H.step st
    have hst : starred (.Name x p) = false := rfl
    rw [zaN hst, za8]
    refine Calls.callWith_builtin rfl (Calls.evalArgs_plain (Calls.spliced_cons (zeF H1 hk hv hd (Calls.spliced_nil ?_))))
    show wpAny _ _ (call (.builtin "str.translate") [.str ⟨#[c]⟩ t, .ref G.d]) _ _ s'
    have hm : s'.heap.MapOf (intKind cx.prog cx.w) G.d G.f := let ⟨o, es, ep, g, r⟩ := G.hm; ⟨o, es, ep, st.wd.base _ _ g G.nx, r⟩
    cases hsp : special.contains c with
    | true =>
      obtain ⟨u, hu⟩ := G.yes c hc hsp
      refine call_meetsIn PySem.F.slot_str_translate (typeIs_str _ _ _) PySem.F.entry_str_translate (PySem.F.args_str_translate_2 _ _) (zhP (f := G.f) (x := c) (u := u) hc) ⟨⟨hm, hu⟩, fun k k' => ?_⟩
      rw [if_pos hsp] at hQ
      refine hQ _ F' _ (st.toks k') (.val (.str (l := [92, c]) k (fun c' h => ?_) (by simp [lim])))
      simp only [List.mem_cons, List.not_mem_nil, or_false] at h
      rcases h with rfl | rfl <;> omega
    | false =>
      refine call_meetsIn PySem.F.slot_str_translate (typeIs_str _ _ _) PySem.F.entry_str_translate (PySem.F.args_str_translate_2 _ _) (zg5 (f := G.f) hc G.sys) ⟨⟨hm, G.no c hc hsp, H.bud.hd⟩, fun h' k k' hk' => ?_⟩
      rw [if_neg (by rw [hsp]; decide)] at hQ
      refine hQ _ F' _ (st.trans (Step.grown H.ok st.wd k' hk')) (.val (.str (l := [c]) k (fun c' h => ?_) (by simp [lim])))
      simp only [List.mem_cons, List.not_mem_nil, or_false] at h
      subst h; omega
  · cases e2
theorem zlk {a b : PySem.Str} {e : Expr} {y : X} {k k' : Nat} {p p' p'' pos : Pos} {la lb : List Nat} (h : Sound cx ε e y) (ha : constD (.str a) = some (.str la)) (hb : constD (.str b) = some (.str lb)) :
    Sound cx ε (.JoinedStr [.Constant (.str a) k p, .FormattedValue e (-1) none p', .Constant (.str b) k' p''] pos) (.op .fmt (.cons (.const (.str la)) (.cons y (.cons (.const (.str lb)) .nil)))) := by
  refine Sound.ofE ?_ fun _ => rfl
  intro n cf A env F s ρ ad m cm H res he Q E hQ
  obtain ⟨rs, e1, e2⟩ := ev_op he
  obtain ⟨r0, rs0, e3, e4, rfl⟩ := zaW e1
  obtain ⟨r1, rs1, e5, e6, rfl⟩ := zaW e4
  obtain ⟨r2, rs2, e7, e8, rfl⟩ := zaW e6
  cases zdf e8
  have c0 : r0 = .val (.str la) := by replace e3 := (zaB _).symm.trans e3; cases e3; rfl
  have c2 : r2 = .val (.str lb) := by replace e7 := (zaB _).symm.trans e7; cases e7; rfl
  subst c0; subst c2
  simp only [List.map_cons, List.map_nil] at e2; delta opF at e2; dsimp only at e2
  unfold opFmt at e2
  split at e2
  · rename_i l1 l2 l3 eds
    unfold strD at e2
    split at e2 <;> cases e2
    rename_i hz
    have e1' : la = l1 ∧ r1.ds = .str l2 ∧ lb = l3 := by
      have := eds
      simp only [R.ds, List.cons.injEq, D.str.injEq, and_true] at this
      exact this
    obtain ⟨rfl, hr1, rfl⟩ := e1'
    refine wpAny_JoinedStr ?_
    show wpAny _ _ (eval (.Constant (.str a) k p) env) _ E s
    refine (zac ha).ev n cf A env F s ρ ad m cm H _ e3 _ _ fun v F1 s1 st1 q1 => ?_
    have q1 := q1.brep
    obtain ⟨t1, rfl, p1, z1⟩ := BRep.str_inv (l := la) q1
    have H1 := H.step st1
    refine ⟨_, _, rfl, ?_, ?_⟩
    · show (Str.empty ++ PySem.Str.mk la.toArray).length ≤ sizeLine
      have : (Str.empty ++ PySem.Str.mk la.toArray).length = la.length := by
        rw [strLen_append]; show 0 + la.toArray.size = _; simp
      rw [this]; exact zbm z1
    show wpAny _ _ (eval (.FormattedValue e (-1) none p') env) _ E s1
    refine wpAny_FormattedValue_plain ?_
    refine h.ev n cf A env F1 s1 ρ ad m cm H1 r1 e5 _ _ fun v F2 s2 st2 q2 => ?_
    have q2 := q2.brep
    rw [hr1] at q2
    obtain ⟨t2, rfl, p2, z2⟩ := q2.str_inv
    have len1 : (Str.empty ++ PySem.Str.mk la.toArray).length = la.length := by
      rw [strLen_append]; show 0 + la.toArray.size = _; simp
    have len2 : (Str.empty ++ PySem.Str.mk la.toArray ++ PySem.Str.mk l2.toArray).length = la.length + l2.length := by
      rw [strLen_append, len1]; show _ + l2.toArray.size = _; simp
    have hz' : la.length + l2.length + lb.length ≤ lim := by rw [List.length_append, List.length_append] at hz; exact hz
    have rest : ∀ t2' k2, ∃ y t, (Value.str ⟨l2.toArray⟩ t2') = .str y t ∧ (Str.empty ++ PySem.Str.mk la.toArray ++ y).length ≤ sizeLine ∧ Joins (model cx.prog cx.w) A E (evalEach [.Constant (.str b) k' p''] env) (Str.empty ++ PySem.Str.mk la.toArray ++ y) (fun out s₁ => out.length ≤ sizeLine ∧ Q (.str out s₁.toks) { s₁ with toks := s₁.toks + 1 }) { s2 with toks := k2 } := by
      intro t2' k2
      refine ⟨_, _, rfl, by rw [len2]; exact zbm (by omega), ?_⟩
      show wpAny _ _ (eval (.Constant (.str b) k' p'') env) _ E _
      have H2 := (H1.step st2).step ((Step.refl (H1.step st2).wd).toks k2)
      refine (zac hb).ev n cf A env F2 _ ρ ad m cm H2 _ e7 _ _ fun v F3 s3 st3 q3 => ?_
      have q3 := q3.brep
      obtain ⟨t3, rfl, p3, z3⟩ := BRep.str_inv (l := lb) q3
      have len3 : (Str.empty ++ PySem.Str.mk la.toArray ++ PySem.Str.mk l2.toArray ++ PySem.Str.mk lb.toArray).length = la.length + l2.length + lb.length := by
        rw [strLen_append, len2]; show _ + lb.toArray.size = _; simp
      refine ⟨_, _, rfl, by rw [len3]; exact zbm hz', ?_⟩
      refine ⟨by rw [len3]; exact zbm hz', ?_⟩
      have e : (Str.empty ++ PySem.Str.mk la.toArray ++ PySem.Str.mk l2.toArray ++ PySem.Str.mk lb.toArray) = PySem.Str.mk (la ++ l2 ++ lb).toArray := by
        show PySem.Str.mk (#[] ++ la.toArray ++ l2.toArray ++ lb.toArray) = _
        simp
      rw [e]
      refine hQ _ F3 _ ((st1.trans ((st2.toks k2).trans st3)).toks _) (.val (.str _ (fun c hc => ?_) (by simpa [List.length_append] using hz)))
      rcases List.mem_append.mp hc with hc | hc
      · rcases List.mem_append.mp hc with hc | hc
        · exact p1 c hc
        · exact p2 c hc
      · exact p3 c hc
    refine wpAny_formatField_str (rest t2 s2.toks) (rest s2.toks (s2.toks + 1)) ?_
    show l2.toArray.size ≤ sizeLine
    rw [List.size_toArray]; exact zbm z2
  · cases e2
end
end Mine
end MpYx
section MpZ2x
open PySem PySem.Builtin.Str
namespace Mine
open PySem.Builtin PySem.Builtin.Re
section
variable {prog : Program} {w : World} {A A₀ : Around} {E : Value → Shared → Prop} {s : Shared} {P C : Addr} {codes : Array Value} {a : Array Nat} {u : Tok}
theorem zm5 : ∀ (ps : List (PySem.Str × Tok)), (∀ p ∈ ps, p.1.cps.size ≤ 1000) → (ps.map fun x => x.1.cps.size).sum ≤ ps.length * 1000
  | [], _ => Nat.le_refl _
  | p :: r, h => by
    have h1 := h p List.mem_cons_self
    have h2 := zm5 r fun q hq => h q (List.mem_cons_of_mem _ hq)
    simp only [List.map_cons, List.sum_cons, List.length_cons]
    rw [Nat.succ_mul, Nat.add_comm]; exact Nat.add_le_add h2 h1
theorem zkR {h : Heap} {a : Addr} {vs : Array Value} {n : Nat} (g : h.get? a = some (lobj vs n)) : h.IsList a vs := ⟨_, g, rfl, n, rfl⟩
theorem zlH {R : Result → Shared → Prop} (hp : PatAt s.heap P C codes) {repl : Value} {n done start : Nat} {must : Bool} {pc : Addr} {ps : List (PySem.Str × Tok)} {kk : Nat} (hl : s.heap.get? pc = some (lobj (strValues ps).toArray kk))
    (hf : ∃ k, k < 100 ∧ ((Sre.forSearch reCode a 1 start a.size must).runFor (4 * (k + 1))).outcome = some .failed) (hz : ps.length ≤ 1000) (ha : a.size ≤ 1000) (hps : ∀ p ∈ ps, p.1.cps.size ≤ 100)
    {res : PySem.Str} (hres : Txt.join Str.empty (ps.map (·.1) ++ (if done < a.size then [⟨a.extract done a.size⟩] else [])) = res)
    (h : ∀ h' tk t, Heap.SameBut pc s.heap h' → R (.ok (.ret (.str res t))) { s with heap := h', toks := tk }) :
    wpAny (model prog w) A (Builtin.«re.Pattern.sub.loop» ⟨[.ref P, .str ⟨a⟩ u, repl, rawInt 1, rawInt 0, rawInt n, rawInt done, rawInt start, .bool must, .ref pc, .bool false], []⟩) (fun fin s' => match fin with | .done f => R (.ok f) s' | .again c' => c'.quiet = true ∧ codeAny (model prog w) A₀ c' R s') E s := by
  obtain ⟨k, hk, ho⟩ := hf
  unfold Builtin.«re.Pattern.sub.loop»
  refine wpAny_bind (zjR hp ?_)
  show wpAny _ _ (reNextFound _ start must >>= _) _ _ _
  unfold reNextFound
  refine wpAny_bind (zkX k hk ho ?_)
  have jn : ∀ (ps' : List (PySem.Str × Tok)) (k' : Nat) (s' : Shared), s'.heap.get? pc = some (lobj (strValues ps').toArray k') → ps'.length ≤ 1001 → (∀ p ∈ ps', p.1.cps.size ≤ 1000) → Txt.join Str.empty (ps'.map (·.1)) = res → (∀ tk t, R (.ok (.ret (.str res t))) { s' with toks := tk }) →
      wpAny (model prog w) A (do
        let joiner ← reSlice a 0 0 0
        let text ← if ((← seqItems? (.ref pc)).getD #[]).isEmpty then pure joiner
          else call (.builtin (if (0 : Nat) == 0 then "str.join" else "bytes.join")) [joiner, .ref pc]
        if false then ret (← holding [text] do newTuple [text, ← mkInt (n : Int)]) else ret text) (fun fin s' => match fin with | .done f => R (.ok f) s' | .again c' => c'.quiet = true ∧ codeAny (model prog w) A₀ c' R s') E s' := by
    intro ps' k' s' g hz' hsz' hr hR
    have e0 : (PySem.Str.mk (a.extract 0 0)) = Str.empty := by simp [Str.empty]
    unfold reSlice
    simp only [beq_self_eq_true, if_true]
    rw [e0]
    refine wpAny_bind (wpAny_mkStr ?_ (by decide))
    refine wpAny_bind (wpAny_bind (wpAny_load g (wpAny_pure ?_)))
    cases ps' with
    | nil =>
      have hr' : res = Str.empty := by rw [← hr]; rfl
      rw [hr'] at hR
      exact wpAny_pure (hR _ _)
    | cons p r =>
      rw [if_neg (by simp [strValues])]
      refine wpAny_bind (SC.join (l := p :: r) (texts := (p :: r).map (·.1)) (zkR g) rfl ?_ fun t' k2 => ?_)
      · unfold JoinOk tooLong
        rw [zif, Nat.zero_add]
        have hb := zm5 (p :: r) hsz'
        have hs : ((List.map (fun x => x.1) (p :: r)).map fun x => x.length + Str.empty.length).sum = ((p :: r).map fun x => x.1.cps.size).sum := by
          rw [List.map_map]; rfl
        rw [hs]
        simp only [Bool.not_eq_true', decide_eq_false_iff_not]
        rw [sizeLine_eq]
        have : (p :: r).length * 1000 ≤ 1001 * 1000 := Nat.mul_le_mul_right _ hz'
        exact Nat.not_lt.mpr (Nat.le_trans hb (Nat.le_trans this (by decide)))
      · rw [hr]
        exact wpAny_pure (hR _ _)
  by_cases hd : done < a.size
  · rw [if_pos hd] at hres
    show wpAny _ _ (do
      if (done : Int).toNat < a.size then updateSeq pc (·.push (← reSlice a 0 (done : Int).toNat a.size))
      let joiner ← reSlice a 0 0 0
      let text ← if ((← seqItems? (.ref pc)).getD #[]).isEmpty then pure joiner
        else call (.builtin (if (0 : Nat) == 0 then "str.join" else "bytes.join")) [joiner, .ref pc]
      if false then ret (← holding [text] do newTuple [text, ← mkInt (n : Int)]) else ret text) _ _ _
    rw [if_pos (by simpa using hd)]
    have e1 : (done : Int).toNat = done := Int.toNat_natCast done
    rw [e1]
    unfold reSlice
    simp only [beq_self_eq_true, if_true]
    have hsz : (PySem.Str.mk (a.extract done a.size)).cps.size ≤ 1000 := by show (a.extract done a.size).size ≤ 1000; rw [Array.size_extract]; exact Nat.le_trans (Nat.sub_le _ _) (Nat.le_trans (Nat.min_le_left _ _) ha)
    refine wpAny_bind (wpAny_mkStr ?_ (by show (a.extract done a.size).size ≤ _; have := hsz; rw [sizeLine_eq]; exact Nat.le_trans hsz (by decide)))
    have hlp : (strValues ps).toArray.size ≤ sizeLine := by rw [List.size_toArray]; unfold strValues; rw [List.length_map, sizeLine_eq]; exact Nat.le_trans hz (by decide)
    refine wpAny_bind (wpAny_updateSeq (o := lobj (strValues ps).toArray kk) hl rfl ?_ hlp (by rw [Array.size_push]; omega))
    have e2 : (strValues ps).toArray.push (.str ⟨a.extract done a.size⟩ s.toks) = (strValues (ps ++ [(⟨a.extract done a.size⟩, s.toks)])).toArray := by
      unfold strValues; simp
    have g' := IsL.update (n := kk) (items := (strValues ps).toArray) (show IsL s.heap pc (strValues ps).toArray kk from hl) fun x => x.push (.str ⟨a.extract done a.size⟩ s.toks)
    simp only [e2] at g'
    have := jn (ps ++ [(⟨a.extract done a.size⟩, s.toks)]) _ { s with heap := s.heap.update pc (Obj.mapSeq fun x => x.push (.str ⟨a.extract done a.size⟩ s.toks)), toks := s.toks + 1 } g' (by rw [List.length_append]; exact Nat.succ_le_succ hz) (fun p hp => ?_) (by rw [List.map_append]; exact hres) (fun tk t => h _ _ _ (Heap.SameBut.update ..))
    · unfold reSlice at this
      exact this
    · rcases List.mem_append.mp hp with hp | hp
      · exact Nat.le_trans (hps p hp) (by decide)
      · simp only [List.mem_cons, List.not_mem_nil, or_false] at hp
        subst hp
        exact hsz
  · rw [if_neg hd, List.append_nil] at hres
    show wpAny _ _ (do
      if (done : Int).toNat < a.size then updateSeq pc (·.push (← reSlice a 0 (done : Int).toNat a.size))
      let joiner ← reSlice a 0 0 0
      let text ← if ((← seqItems? (.ref pc)).getD #[]).isEmpty then pure joiner
        else call (.builtin (if (0 : Nat) == 0 then "str.join" else "bytes.join")) [joiner, .ref pc]
      if false then ret (← holding [text] do newTuple [text, ← mkInt (n : Int)]) else ret text) _ _ _
    rw [if_neg (by simpa using hd)]
    exact jn ps kk s hl (Nat.le_succ_of_le hz) (fun p hp => Nat.le_trans (hps p hp) (by decide)) hres (fun tk t => h s.heap tk t (Heap.SameBut.refl ..))
end
end Mine
end MpZ2x
section MpZ3x
open PySem PySem.Builtin.Str
namespace Mine
open PySem.Builtin PySem.Builtin.Re
section
variable {prog : Program} {w : World} {A A₀ : Around} {E : Value → Shared → Prop} {s : Shared} {P C : Addr} {codes : Array Value} {a : Array Nat} {u : Tok}
end
end Mine
end MpZ3x
section MpZ4x
open PySem PySem.Builtin.Str
namespace Mine
open PySem.Builtin PySem.Builtin.Re
theorem fn_call : ∃ v, typeLookup (.type "function") "__call__" = pure (some v) := ⟨.builtin "function.__call__", by rw [typeLookup_type, builtinLookup_eq_fast]; kernel_rfl⟩
theorem zfq : isSubtype (.type "str") (.type "bytearray") = pure false := by rw [isSubtype_type]; kernel_rfl
section
variable {prog : Program} {w : World} {A A₀ : Around} {E : Value → Shared → Prop} {s : Shared} {P C : Addr} {codes : Array Value} {a : Array Nat} {u : Tok}
theorem zlf {R : Result → Shared → Prop} (hp : PatAt s.heap P C codes) {lam : Addr} {ol : Obj} (hl : s.heap.get? lam = some ol) (hc : ol.cls = .type "function")
    (h : codeAny (model prog w) A₀ (.builtin "re.Pattern.sub.loop" ⟨[.ref P, .str ⟨a⟩ u, .ref lam, rawInt 1, rawInt 0, rawInt 0, rawInt 0, rawInt 0, .bool false, .ref s.heap.objs.size, .bool false], []⟩) R { s with heap := s.heap.push (lobj #[] 0) }) :
    wpAny (model prog w) A (Builtin.«re.Pattern.sub» ⟨[.ref P, .ref lam, .str ⟨a⟩ u], []⟩) (fun fin s' => match fin with | .done f => R (.ok f) s' | .again c' => c'.quiet = true ∧ codeAny (model prog w) A₀ c' R s') E s := by
  obtain ⟨hh, g, d, tk, os⟩ := s
  have hT : (⟨hh, g, d, tk, os⟩ : Shared).TypeIs (.ref lam) "function" := ⟨ol, hl, hc⟩
  obtain ⟨cv, f1⟩ := fn_call
  have f2 := zfq
  unfold Builtin.«re.Pattern.sub» reSubstitute
  repeat (any_goals (first | assumption | ((with_reducible show wpAny _ _ (reWholeTarget _ _) _ _ _); refine zjR hp ?_) | wp_step))
  exact ⟨plainId_quiet zew _, h⟩
end
end Mine
end MpZ4x
section MpZ5x
open PySem PySem.Builtin.Str PySem.W PySem.Calls PyProof.Rows
namespace Mine
noncomputable def TabXF (c Pt : Addr) (qs : List (Pos × PySem.Str)) (F : Addr → Prop) (h : Heap) : Prop :=
  F c ∧ CodeHd h c Pt ∧ ∃ ps, h.get? Pt = some (tabObj ps) ∧ TriplesOk ps.toList ∧ ∀ pos q, (pos, q) ∈ qs → ∀ cv, codeAmong pos ps.toList = some cv → ∃ c', cv = .ref c' ∧ F c' ∧ h.CodeRec (.ref c') q
theorem TabXF.mono {c Pt : Addr} {qs : List (Pos × PySem.Str)} {F F' : Addr → Prop} {h h' : Heap} (x : TabXF c Pt qs F h) (hF : ∀ a, F a → F' a) (hk : ∀ a o, F a ∨ a = Pt → h.get? a = some o → h'.get? a = some o) : TabXF c Pt qs F' h' := by
  obtain ⟨fc, ⟨o, vs, file, tf, flags, tg, inF, text, tt, e, r⟩, ps, g, ht, hq⟩ := x
  refine ⟨hF _ fc, ⟨o, vs, file, tf, flags, tg, inF, text, tt, hk _ _ (.inl fc) e, r⟩, ps, hk _ _ (.inr rfl) g, ht, fun pos q hm cv hc => ?_⟩
  obtain ⟨c', e', f', rec⟩ := hq pos q hm cv hc
  exact ⟨c', e', hF _ f', rec.at fun o e => hk _ o (.inl f') e⟩
theorem zdY {pos p2 : Pos} {c : Value} : ∀ {l : List Value}, TriplesOk l → (pos.line ≠ p2.line ∨ pos.col ≠ p2.col) → codeAmong pos (l ++ [rawInt p2.line, rawInt p2.col, c]) = codeAmong pos l
  | l, h, hne => by
    fun_induction TriplesOk l with
    | case1 =>
      simp only [List.nil_append, codeAmong, rawInt]
      rw [if_neg]
      intro hh
      simp only [Bool.and_eq_true, beq_iff_eq] at hh
      omega
    | case2 a t b u x rest ih =>
      simp only [List.cons_append, codeAmong]
      split
      · rfl
      · exact ih h
    | case3 l h1 h2 => exact h.elim
set_option genInjectivity false in
structure LamG (cx : XCx) where
  c : Addr
  Pt : Addr
  qs : List (Pos × PySem.Str)
  xf : cx.XF = TabXF c Pt qs
  xp : ∀ a, cx.X a ↔ a = Pt
  apart : qs.Pairwise fun a b => a.1.line ≠ b.1.line ∨ a.1.col ≠ b.1.col
  blt : cx.h0.BuiltinsAt cx.mg Pt
section
variable {cx : XCx} {ε : Sc}
theorem zi7 {qs : List (Pos × PySem.Str)} (ap : qs.Pairwise fun a b => a.1.line ≠ b.1.line ∨ a.1.col ≠ b.1.col) {p1 p2 : Pos} {q1 q2 : PySem.Str} (h1 : (p1, q1) ∈ qs) (h2 : (p2, q2) ∈ qs) : (p1 = p2 ∧ q1 = q2) ∨ p1.line ≠ p2.line ∨ p1.col ≠ p2.col := by
  induction qs with
  | nil => cases h1
  | cons x r ih =>
    obtain ⟨a1, a2⟩ := List.pairwise_cons.mp ap
    rcases List.mem_cons.mp h1 with e1 | h1
    · rcases List.mem_cons.mp h2 with e2 | h2
      · rw [← e1] at e2; cases e2; exact .inl ⟨rfl, rfl⟩
      · have := a1 _ h2; rw [← e1] at this; exact .inr this
    · rcases List.mem_cons.mp h2 with e2 | h2
      · have := a1 _ h1; rw [← e2] at this; exact .inr (this.imp Ne.symm Ne.symm)
      · exact ih a2 h1 h2
theorem zmO (G : LamG cx) {n cf A env F s ρ ad m cm} (H : Here cx ε n cf A env F s ρ ad m cm) {qual : PySem.Str} (hcode : ε.code = some (G.c, qual)) {params : Arguments} {body : Expr} {scope : Scope} {pos : Pos} (hdef : defaultsOf params env = ([], []))
    (hq : (pos, qual ++ "<lambda>") ∈ G.qs) (hcl : closureFor scope env = pure []) {Q : Value → Shared → Prop} {E : Value → Shared → Prop}
    (hQ : ∀ F' s' lam c' ctv, Step cx F s F' s' → s.heap.get? lam = none → ¬ F' lam → s'.heap.get? lam = some (kla_obj "<lambda>" (qual ++ "<lambda>") params body scope [] ((cx.mg "__name__").getD .none) c' ctv) → F' c' → s'.heap.CodeRec (.ref c') (qual ++ "<lambda>") → Q (.ref lam) s') :
    wpAny (model cx.prog cx.w) A (eval (.Lambda params body scope pos) env) Q E s := by
  obtain ⟨hc, hqual⟩ := H.env.code _ _ hcode
  refine kla_eval hdef ?_
  rw [hqual]
  have hx : TabXF G.c G.Pt G.qs F s.heap := by have := H.wd.xi; rw [G.xf] at this; exact this
  obtain ⟨fc, hd, ps, g, ht, hqs⟩ := hx
  have hg := H.wd.glob H.ok
  have nP : ∀ {a o}, cx.h0.get? a = some o → a ≠ G.Pt → s.heap.get? a = some o := fun e h => H.wd.base _ _ e fun hx => h ((G.xp _).mp hx)
  have hgP : mainGlobals ≠ G.Pt := fun e => H.ok.gx ((G.xp _).mpr e)
  have hblt : s.heap.BuiltinsAt cx.mg G.Pt := by
    obtain ⟨bm, o, b1, b2, b3, b4, b5, r⟩ := G.blt
    exact ⟨bm, o, b1, b2, b3, b4, nP b5 b4, r⟩
  cases hca : codeAmong pos ps.toList with
  | none =>
    refine kla_makeFunction hcl H.env.glob hg hc hd g ht hca hgP hblt fun c' ctv h' tk hx hge hlt hrec htb => ?_
    have hXP : cx.X G.Pt := (G.xp _).mpr rfl
    have fP : ¬ F G.Pt := fun h => H.wd.nx _ h hXP
    have keep : ∀ a o, s.heap.get? a = some o → ¬ cx.X a → h'.get? a = some o := fun a o e nx => hx a o (fun e => nx ((G.xp _).mpr e)) e
    have frc : s.heap.get? c' = none := by
      cases e : s.heap.get? c' with
      | none => rfl
      | some o => exact absurd (Heap.lt_size e) (Nat.not_lt.mpr hge)
    have ndC : ¬ cx.X c' := H.wd.newNotX frc
    obtain ⟨c2, oc, vs, t, e2, goc, r⟩ := hrec
    cases e2
    let h3 : Heap := h'.push (kla_obj "<lambda>" (qual ++ "<lambda>") params body scope [] ((cx.mg "__name__").getD .none) c' ctv)
    have up : ∀ a o, h'.get? a = some o → h3.get? a = some o := fun a o e => Heap.get?_push_of_some _ e
    have frl : s.heap.get? h'.objs.size = none := by
      cases e : s.heap.get? h'.objs.size with
      | none => rfl
      | some o => exact absurd (Nat.lt_of_lt_of_le (Heap.lt_size e) (Nat.le_trans hge (Nat.le_of_lt hlt))) (Nat.lt_irrefl _)
    have rec3 : h3.CodeRec (.ref c') (qual ++ "<lambda>") := ⟨c', oc, vs, t, rfl, up _ _ goc, r⟩
    have st : Step cx F s (fun a => F a ∨ a = c') { s with heap := h3, toks := tk } := by
      refine ⟨fun _ h => .inl h, fun a h => h.imp (fun h => h) (fun (e : a = c') => by rw [e]; exact frc), fun a o e nx => up _ _ (keep a o e nx), rfl, ⟨fun a o e nx => up _ _ (keep a o (H.wd.base a o e nx) nx), ?_, H.wd.gens, fun a o e nx => .inl (H.wd.f0 a o e nx), fun a h => ?_, fun a h => h.elim (H.wd.nx a) (fun (e : a = c') => by rw [e]; exact ndC), fun a h => ?_⟩⟩
      · rw [G.xf]
        refine ⟨.inl fc, ?_, _, up _ _ htb, ?_, fun p q hm cv hcv => ?_⟩
        · obtain ⟨o, vs, file, tf, flags, tg, inF, text, tt, e, r⟩ := hd
          exact ⟨o, vs, file, tf, flags, tg, inF, text, tt, up _ _ (keep _ _ e (H.wd.nx _ fc)), r⟩
        · have := TriplesOk_snoc pos.line pos.col (.ref c') ps.toList ht
          simpa using this
        · have ea : (ps ++ #[rawInt pos.line, rawInt pos.col, .ref c']).toList = ps.toList ++ [rawInt pos.line, rawInt pos.col, .ref c'] := by simp
          rw [ea] at hcv
          rcases zi7 G.apart hm hq with ⟨rfl, rfl⟩ | hne
          · rw [codeAmong_snoc _ ht hca] at hcv
            cases hcv
            exact ⟨c', rfl, .inr rfl, rec3⟩
          · rw [zdY ht hne] at hcv
            obtain ⟨c4, e4, f4, r4⟩ := hqs p q hm cv hcv
            exact ⟨c4, e4, .inl f4, r4.at fun o e => up _ _ (keep _ _ e (H.wd.nx _ f4))⟩
      · rcases h with h | h
        · obtain ⟨o, e⟩ := H.wd.lt a h
          exact ⟨o, up _ _ (keep a o e (H.wd.nx a h))⟩
        · subst h; exact ⟨oc, up _ _ goc⟩
      · rw [(G.xp a).mp h]; exact ⟨_, up _ _ htb⟩
    refine hQ _ _ _ c' ctv st frl (fun h => ?_) (Heap.get?_push_size _ rfl) (.inr rfl) rec3
    rcases h with h | h
    · obtain ⟨o, e⟩ := H.wd.lt _ h
      rw [frl] at e; cases e
    · rw [← h] at hlt; exact absurd hlt (Nat.lt_irrefl _)
  | some cv =>
    obtain ⟨c', rfl, fc', rec⟩ := hqs pos _ hq cv hca
    refine kla_makeFunctionHit hcl H.env.glob hg hc hd g ht hca hblt fun ctv h' tk hk hsz => ?_
    have up : ∀ a o, s.heap.get? a = some o → (h'.push (kla_obj "<lambda>" (qual ++ "<lambda>") params body scope [] ((cx.mg "__name__").getD .none) c' ctv)).get? a = some o := fun a o e => Heap.get?_push_of_some _ (hk a o e)
    have frl : s.heap.get? h'.objs.size = none := by
      cases e : s.heap.get? h'.objs.size with
      | none => rfl
      | some o => exact absurd (Nat.lt_of_lt_of_le (Heap.lt_size e) hsz) (Nat.lt_irrefl _)
    refine hQ F _ _ c' ctv (Step.grown H.ok H.wd tk up) frl (H.wd.newNotF frl) (Heap.get?_push_size _ rfl) fc' (rec.at fun o e => up _ _ e)
end
end Mine
end MpZ5x
section MpZ6x
open PySem PySem.Builtin.Str PySem.W PySem.Calls PyProof.Rows
namespace Mine
section
variable {cx : XCx} {A : Around} {E : Value → Shared → Prop} {s : Shared} {Pa : Addr} {a : Array Nat} {u : Tok}
noncomputable def lamBody (k1 k2 k3 : Nat) (p1 p2 p3 p4 p5 p6 p7 p8 : Pos) : Expr :=
  .BinOp (.Constant (.str "\\") k1 p1) .Add (.BoolOp .Or [.Call (.Attribute (.Name "_m" p2) "group" p3) [.Constant (.int 1) k2 p4] [] p5, .Constant (.str "") k3 p6] p7) p8
end
end Mine
end MpZ6x
section MpZ7x
open PySem PySem.Builtin.Str PySem.W PySem.Calls PyProof.Rows
namespace Mine
noncomputable def lamParams (p : Pos) : Arguments := { posonlyargs := [], args := [{ arg := "_m", annotation := none, pos := p }], vararg := none, kwonlyargs := [], kw_defaults := [], kwarg := none, defaults := [] }
noncomputable def lamScope : Scope := { kind := .function, names := [("_m", .local)], isGenerator := false, isCoroutine := false }
section
variable {cx : XCx} {A : Around} {E : Value → Shared → Prop} {s : Shared} {Pa : Addr} {a : Array Nat} {u : Tok}
end
end Mine
end MpZ7x
section MpZ8x
open PySem PySem.Builtin.Str PySem.W PySem.Calls PyProof.Rows
namespace Mine
open PySem.Builtin PySem.Builtin.Re
noncomputable def failedB (m : Sre.M) : Bool := match m.outcome with | some .failed => true | _ => false
theorem zkW {m : Sre.M} (h : failedB m = true) : m.outcome = some .failed := by
  unfold failedB at h
  split at h
  · assumption
  · cases h
theorem zmL : (noHit.all fun a => failedB ((Sre.forSearch reCode a.toArray 1 0 a.toArray.size false).runFor (4 * (0 + 1)))) = true := by decide +kernel
section
variable {prog : Program} {w : World} {A : Around} {s : Shared}
theorem zlI {args : Args} {R : Result → Shared → Prop}
    (h : wpAny (model prog w) A.in1 (Builtin.«re.Pattern.sub.loop» args) (fun fin s' => match fin with | .done f => R (.ok f) s' | .again c' => c'.quiet = true ∧ codeAny (model prog w) A c' R s') (fun e s' => R (.error e) s') s) :
    codeAny (model prog w) A (.builtin "re.Pattern.sub.loop" args) R s :=
  codeAny_builtin zhl (by rw [Around.under_plainId zew _]; exact h)
theorem zlD {P C : Addr} {codes : Array Value} {a : Array Nat} {u : Tok} {lam : Addr} :
    MeetsIn prog w (Builtin.«re.Pattern.sub» ⟨[.ref P, .ref lam, .str ⟨a⟩ u], []⟩) (fun A R s => (PatAt s.heap P C codes ∧ ∃ ol, s.heap.get? lam = some ol ∧ ol.cls = .type "function") ∧
      codeAny (model prog w) A (.builtin "re.Pattern.sub.loop" ⟨[.ref P, .str ⟨a⟩ u, .ref lam, rawInt 1, rawInt 0, rawInt 0, rawInt 0, rawInt 0, .bool false, .ref s.heap.objs.size, .bool false], []⟩) R { s with heap := s.heap.push (lobj #[] 0) }) :=
  fun A R s hs => by
    obtain ⟨⟨hp, ol, hl, hc⟩, h⟩ := hs
    exact zlf (A := A.in1) (A₀ := A) hp hl hc h
theorem zmv {P C : Addr} {codes : Array Value} {a : List Nat} {u : Tok} (ha : noHit.contains a = true) (hp : PatAt s.heap P C codes) {lam : Addr} {ol : Obj} (hl : s.heap.get? lam = some ol) (hc : ol.cls = .type "function") {Q : Value → Shared → Prop} {E : Value → Shared → Prop}
    (h : ∀ h' tk t, (∀ b o, s.heap.get? b = some o → h'.get? b = some o) → Q (.str ⟨a.toArray⟩ t) { s with heap := h', toks := tk }) :
    wpAny (model prog w) A (call (.builtin "re.Pattern.sub") [.ref P, .ref lam, .str ⟨a.toArray⟩ u]) Q E s := by
  have hT : s.TypeIs (.ref P) "re.Pattern" := by
    obtain ⟨x, t, u, v, w, y, e, _⟩ := hp.pat
    exact ⟨_, e, rfl⟩
  have hm : a ∈ noHit := by simpa using ha
  have hf := zkW (List.all_eq_true.mp zmL a hm)
  have hlen : a.length ≤ 10 := by
    have : (noHit.all fun a => decide (a.length ≤ 10)) = true := by decide
    simpa using List.all_eq_true.mp this a hm
  refine call_meetsIn zfK hT zij (zhn _ _ _) zlD ⟨⟨hp, ol, hl, hc⟩, zlI ?_⟩
  have hk : ∀ b o, s.heap.get? b = some o → (s.heap.push (lobj #[] 0)).get? b = some o := fun b o e => Heap.get?_push_of_some _ e
  have hnew : (s.heap.push (lobj #[] 0)).get? s.heap.objs.size = some (lobj (strValues []).toArray 0) := Heap.get?_push_size _ rfl
  refine zlH (n := 0) (done := 0) (start := 0) (ps := []) (kk := 0) (res := ⟨a.toArray⟩) (hp.keeps hk) hnew ⟨0, by decide, hf⟩ (by simp) (by rw [List.size_toArray]; omega) (by simp) ?_ fun h' tk t sb => ?_
  · cases a with
    | nil => rfl
    | cons c r =>
      rw [if_pos (by simp)]
      have e : (c :: r).toArray.extract 0 (c :: r).toArray.size = (c :: r).toArray := by simp
      rw [e]
      unfold Txt.join
      have := zfI [] [c :: r]
      simpa [joinL, Str.empty] using this
  · refine h h' tk t fun b o e => (sb.2 b (Nat.ne_of_lt (Heap.lt_size e))).trans (hk b o e)
end
end Mine
end MpZ8x
section MpZ9x
open PySem PySem.Builtin.Str PySem.W PySem.Calls PyProof.Rows
namespace Mine
open PySem.Builtin PySem.Builtin.Re
section
variable {cx : XCx} {A : Around} {s : Shared}
end
end Mine
end MpZ9x
section MpZax
open PySem PySem.Builtin.Str PySem.W PySem.Calls PyProof.Rows
namespace Mine
set_option genInjectivity false in
structure PatG (cx : XCx) where
  P : Addr
  C : Addr
  codes : Array Value
  nP : ¬ cx.X P
  nC : ¬ cx.X C
  at0 : PatAt cx.h0 P C codes
theorem PatG.at {cx : XCx} (G : PatG cx) {F : Addr → Prop} {s : Shared} (w : Wd cx F s) : PatAt s.heap G.P G.C G.codes := by
  obtain ⟨⟨a, t, u, v, w', y, e, r⟩, ⟨n, ec⟩, is⟩ := G.at0
  exact ⟨⟨a, t, u, v, w', y, w.base _ _ e G.nP, r⟩, ⟨n, w.base _ _ ec G.nC⟩, is⟩
section
variable {cx : XCx} {ε : Sc}
theorem ziz (G : LamG cx) (PG : PatG cx) {x : PySem.Str} {p apos pos lp p0 : Pos} {e : Expr} {y : X} {qual : PySem.Str} {k1 k2 k3 : Nat} {p1 p2 p3 p4 p5 p6 p7 p8 : Pos} (hk : ε.kinds.lookup x = some .globalImplicit) (hv : cx.mg x = some (.ref PG.P)) (hd : (x == ("__debug__" : PySem.Str)) = false)
    (hcode : ε.code = some (G.c, qual)) (hq : (lp, qual ++ "<lambda>") ∈ G.qs) (hl : (apos.endLine == pos.line) = true) (hpl : (p3.endLine == p5.line) = true) (hst : starred e = false) (h : Sound cx ε e y) :
    Sound cx ε (.Call (.Attribute (.Name x p) "sub" apos) [.Lambda (lamParams p0) (lamBody k1 k2 k3 p1 p2 p3 p4 p5 p6 p7 p8) lamScope lp, e] [] pos) (.op .resub0 (.cons y .nil)) := by
  refine Sound.ofE ?_ fun _ => rfl
  intro n cf A env F s ρ ad m cm H res he Q E hQ
  obtain ⟨rs, e1, e2⟩ := ev_op he
  obtain ⟨r0, rs', e3, e4, rfl⟩ := zaW e1
  cases zdf e4
  have hstL : starred (.Lambda (lamParams p0) (lamBody k1 k2 k3 p1 p2 p3 p4 p5 p6 p7 p8) lamScope lp) = false := rfl
  have hany : (backTo pos (starEach [.Lambda (lamParams p0) (lamBody k1 k2 k3 p1 p2 p3 p4 p5 p6 p7 p8) lamScope lp, e] env)).any (·.1) = false := by
    rw [zaN hstL, za8, List.any_cons, zaN hst, za8, List.any_cons]; rfl
  refine zeh rfl hl (by simp) hany ?_
  refine zeF H hk hv hd ?_
  obtain ⟨px, pt, pu, pv, pw, py, pe, _⟩ := (PG.at H.wd).pat
  refine getMethod_builtin (T := "re.Pattern") ⟨_, pe, rfl⟩ zhd zfK zir (fun a e => ⟨_, by cases e; exact pe, rfl⟩) ?_
  refine Calls.callWith_builtin hany ?_
  rw [zaN hstL, za8, zaN hst, za8]
  have hcl : closureFor lamScope env = pure [] := closureFor_none (by intro y hy; simp [lamScope] at hy; subst hy; decide)
  refine Calls.evalArgs_plain (Calls.spliced_cons (zmO G H hcode rfl hq hcl fun F1 s1 lam c' ctv st1 fr1 nf1 g1 fc1 rec1 => ?_))
  have H1 := H.step st1
  refine Calls.spliced_cons (h.ev n cf A env F1 s1 ρ ad m cm H1 r0 e3 _ _ fun v F2 s2 st2 q2 => Calls.spliced_nil ?_)
  show wpAny _ _ (call (.builtin "re.Pattern.sub") [.ref PG.P, .ref lam, v]) _ _ s2
  have nxl : ¬ cx.X lam := H.wd.newNotX fr1
  have g2 := st2.keep _ _ g1 nxl
  have rec2 := rec1.at fun o e => st2.keep _ o e (st1.wd.nx _ fc1)
  simp only [List.map_cons, List.map_nil] at e2; delta opF at e2; dsimp only at e2
  unfold opResub0 at e2
  split at e2
  · rename_i a ea
    have qb := q2.brep
    have ea' : r0.ds = .str a := by simpa using ea
    rw [ea'] at qb
    obtain ⟨t, rfl, pp, z⟩ := qb.str_inv
    have stt := st1.trans st2
    split at e2
    · rename_i hno
      cases e2
      refine zmv hno (PG.at st2.wd) g2 rfl fun h' tk t' hk' => ?_
      exact hQ _ F2 _ (stt.trans (Step.grown H.ok st2.wd tk hk')) (.val (.str t' pp z))
    · cases e2
  · cases e2
end
end Mine
end MpZax
section MpZbx
open PySem PySem.Builtin.Str PySem.W PySem.Calls PyProof.Rows
namespace Mine
section
variable {M : Model} {A : Around} {E : Value → Shared → Prop} {s : Shared}
theorem zmS {env : Env} {c P : Addr} {ps : Array Value} {pos : Pos} {qual : PySem.Str} {scope : Scope} {Q : Value → Shared → Prop} (hc : env.code = .ref c) (C : CodeHd s.heap c P) (hP : s.heap.get? P = some (tabObj ps)) (ht : TriplesOk ps.toList)
    (hQ : ∀ code h' tk, Heap.ExtBut P s.heap h' → (h'.get? P = some (tabObj ps) ∨ (codeAmong pos ps.toList = none ∧ ∃ c', code = .ref c' ∧ s.heap.objs.size ≤ c' ∧ h'.CodeRec (.ref c') qual ∧ h'.get? P = some (tabObj (ps ++ #[rawInt pos.line, rawInt pos.col, .ref c'])))) → Q code { s with heap := h', toks := tk }) :
    wpAny M A (genexprCode env pos qual scope) Q E s := by
  cases hca : codeAmong pos ps.toList with
  | some cv =>
    obtain ⟨o, vs, file, tf, flags, tg, inF, text, tt, op, ho, hd, h11, h2, h7, h9, h10, hop, hpd, htr, hne⟩ := id (C.code hP ht)
    unfold genexprCode codeAt
    rw [hc, if_neg (show ¬ ((Value.ref c == Value.none) = true) from Bool.false_ne_true)]
    refine wpAny_bind (wpAny_fieldsOf ho hd ?_)
    rw [h11]
    refine wpAny_bind (wpAny_fieldsOf hop hpd ?_)
    rw [hca]
    exact wpAny_pure (hQ cv s.heap s.toks (Heap.ExtBut.refl _ _) (.inl hP))
  | none =>
    obtain ⟨o, vs, file, tf, flags, tg, inF, text, tt, op, ho, hd, h11, h2, h7, h9, h10, hop, hpd, htr, hne⟩ := id (C.code hP ht)
    unfold genexprCode codeAt
    rw [hc, if_neg (show ¬ ((Value.ref c == Value.none) = true) from Bool.false_ne_true)]
    refine wpAny_bind (wpAny_fieldsOf ho hd ?_)
    rw [h11]
    refine wpAny_bind (wpAny_fieldsOf hop hpd ?_)
    rw [hca, h2, h7, h9, h10]
    refine wpAny_bind (wpAny_newCode fun c' P' h' tk hk hc' hP' hcode' hrec' => ?_)
    have hop' := hk _ _ hP
    refine wpAny_bind (wpAny_updateFieldsOfTheText hop' rfl ?_)
    have hnew : (Obj.mapFields (fun vs => if (codeAmong pos vs.toList).isSome = true then vs else vs ++ #[rawInt pos.line, rawInt pos.col, .ref c']) (tabObj ps)) = tabObj (ps ++ #[rawInt pos.line, rawInt pos.col, .ref c']) := by
      simp [Obj.mapFields, hca]
    have hget := Heap.get?_update_self (h := h') (fun o => Obj.mapFields (fun vs => if (codeAmong pos vs.toList).isSome = true then vs else
      vs ++ #[rawInt pos.line, rawInt pos.col, .ref c']) o) hop' (by rw [hnew]; rfl)
    rw [hnew] at hget
    refine wpAny_bind (wpAny_fieldsOf hget rfl ?_)
    have hl : (ps ++ #[rawInt pos.line, rawInt pos.col, Value.ref c']).toList = ps.toList ++ [rawInt pos.line, rawInt pos.col, .ref c'] := by simp
    rw [hl, codeAmong_snoc _ ht hca]
    refine wpAny_pure (hQ _ _ _ (fun b o' hb e => ((Heap.SameBut.update ..).extBut b o' hb (hk b o' e))) (.inr ⟨hca, c', rfl, hc', ?_, hget⟩))
    obtain ⟨c2, oc, vs2, t2, e2, goc, r2⟩ := hrec'
    cases e2
    have hcP : c' ≠ P := fun e => by
      have := Heap.lt_size hP
      rw [← e] at this
      exact absurd this (Nat.not_lt.mpr hc')
    exact ⟨c', oc, vs2, t2, rfl, (Heap.SameBut.update ..).extBut _ _ hcP goc, r2⟩
end
end Mine
end MpZbx
section MpZcx
open PySem PySem.Builtin.Str PySem.W PySem.Calls PyProof.Rows
namespace Mine
section
variable {cx : XCx} {A : Around} {E : Value → Shared → Prop} {s : Shared}
theorem ziD {a b c : PySem.Str} {t u v : Tok} (hocc : (occurrences a b 0 a.length (a.length + 1)).isEmpty = true) {mc : PySem.Str → Option Value} (n1 : s.heap.Ns cStatics mc) (n2 : mc sharingNotToldKey = none) {Q : Value → Shared → Prop} (h : Q (.str a t) s) :
    wpAny (model cx.prog cx.w) A (call (.builtin "str.replace") [.str a t, .str b u, .str c v]) Q E s := by
  have e : ((occurrences a b 0 a.length (a.length + 1)).isEmpty || (b.length == 0 && c.length == 0)) = true := by rw [hocc]; rfl
  refine call_givesAt PySem.F.slot_str_replace (typeIs_str _ _ _) PySem.F.entry_str_replace (PySem.F.args_str_replace_3 _ _ _) (gives_str_replace2 _ _ _ t u v fun h => by rw [e] at h; cases h) ⟨mc, n1, n2⟩ ?_
  rw [if_pos e]
  exact h
noncomputable def repElt (x : PySem.Str) (b1 c1 b2 c2 : PySem.Str) (k1 k2 k3 k4 : Nat) (p1 p2 p3 p4 p5 p6 p7 p8 p9 : Pos) : Expr :=
  .Call (.Attribute (.Call (.Attribute (.Name x p1) "replace" p2) [.Constant (.str b1) k1 p3, .Constant (.str c1) k2 p4] [] p5) "replace" p6) [.Constant (.str b2) k3 p7, .Constant (.str c2) k4 p8] [] p9
theorem zln {o : Expr} {env : Env} {b c a : PySem.Str} {t : Tok} {k1 k2 : Nat} {p2 p3 p4 p5 : Pos} (hb : plainBase o = true) (hl : (p2.endLine == p5.line) = true) (hocc : (occurrences a b 0 a.length (a.length + 1)).isEmpty = true) {mc : PySem.Str → Option Value} (n2 : mc sharingNotToldKey = none) {Q : Value → Shared → Prop}
    (h : wpAny (model cx.prog cx.w) A (eval o env) (fun v s₁ => v = .str a t ∧ s₁.heap.Ns cStatics mc ∧ ∀ k, Q (.str a t) { s₁ with toks := k }) E s) (hz : b.length ≤ 10 ∧ c.length ≤ 10) :
    wpAny (model cx.prog cx.w) A (eval (.Call (.Attribute o "replace" p2) [.Constant (.str b) k1 p3, .Constant (.str c) k2 p4] [] p5) env) Q E s := by
  refine zeh hb hl (by simp) rfl (wpAny_mono h (fun v s₁ h₁ => ?_) fun _ _ e => e)
  obtain ⟨rfl, n1, hQ⟩ := h₁
  refine GM.replace ?_
  refine Calls.callWith_builtin rfl (Calls.evalArgs_plain (Calls.spliced_cons (Calls.Constant_str (k := k1) (pos := p3) (Calls.spliced_cons (Calls.Constant_str (k := k2) (pos := p4) (Calls.spliced_nil ?_))))))
  show wpAny _ _ (call (.builtin "str.replace") [.str a t, .str b _, .str c _]) Q E { s₁ with toks := s₁.toks + 1 + 1 }
  exact ziD (cx := cx) (s := { s₁ with toks := s₁.toks + 1 + 1 }) hocc n1 n2 (hQ _)
end
end Mine
end MpZcx
section MpZdx
open PySem PySem.Builtin.Str PySem.W PySem.Calls PyProof.Rows
namespace Mine
section
variable {cx : XCx} {A : Around} {E : Value → Shared → Prop} {s : Shared}
theorem rep_elt {env : Env} {x b1 c1 b2 c2 a : PySem.Str} {t : Tok} {k1 k2 k3 k4 : Nat} {p1 p2 p3 p4 p5 p6 p7 p8 p9 : Pos} (hl1 : (p2.endLine == p5.line) = true) (hl2 : (p6.endLine == p9.line) = true) (ho1 : (occurrences a b1 0 a.length (a.length + 1)).isEmpty = true) (ho2 : (occurrences a b2 0 a.length (a.length + 1)).isEmpty = true)
    {mc : PySem.Str → Option Value} (n1 : s.heap.Ns cStatics mc) (n2 : mc sharingNotToldKey = none) (hk : env.scope.kind = .function) (hl : env.kindOf x = some .local) {m : PySem.Str → Option Value} (hn : s.heap.Ns env.locals m) (hm : m x = some (.str a t)) (hd : (x == ("__debug__" : PySem.Str)) = false)
    (hz : b1.length ≤ 10 ∧ c1.length ≤ 10) (hz2 : b2.length ≤ 10 ∧ c2.length ≤ 10) {Q : Value → Shared → Prop} (h : ∀ k, Q (.str a t) { s with toks := k }) :
    wpAny (model cx.prog cx.w) A (eval (repElt x b1 c1 b2 c2 k1 k2 k3 k4 p1 p2 p3 p4 p5 p6 p7 p8 p9) env) Q E s := by
  unfold repElt
  refine zln rfl hl2 ho2 n2 (t := t) ?_ hz2
  refine zln rfl hl1 ho1 n2 (t := t) ?_ hz
  refine wpAny_Name (wpAny_loadName_local hk hl hn hm ?_) hd
  exact ⟨rfl, n1, fun k => ⟨rfl, n1, fun k' => h k'⟩⟩
end
end Mine
end MpZdx
section MpZex
open PySem PySem.Builtin.Str PySem.W PySem.Calls PyProof.Rows
namespace Mine
noncomputable def repX (i : Nat) (b1 c1 b2 c2 : List Nat) : X :=
  .op .replace (.cons (.op .replace (.cons (.var i) (.cons (.const (.str b1)) (.cons (.const (.str c1)) .nil)))) (.cons (.const (.str b2)) (.cons (.const (.str c2)) .nil)))
noncomputable def noOcc (a b : List Nat) : Bool := (occurrences ⟨a.toArray⟩ ⟨b.toArray⟩ 0 a.length (a.length + 1)).isEmpty
theorem zeZ {d : D} {b c : List Nat} {r : R} (h : opF .replace [d, .str b, .str c] = some r) : ∃ a, d = .str a ∧ noOcc a b = true ∧ r = .val (.str a) := by
  delta opF at h; dsimp only at h
  unfold opReplace at h
  split at h
  · rename_i a b' c' e
    split at h <;> cases h
    rename_i ho
    cases e
    exact ⟨a, rfl, ho, rfl⟩
  · cases h
theorem zmA {cf : Nat → List D → Option D} {i : Nat} {b1 c1 b2 c2 : List Nat} {ρ : List Slot} {d : D} {r : R} (h : ev cf (repX i b1 c1 b2 c2) (ρ.set i (.val d)) = some [r]) : ∃ a, d = .str a ∧ noOcc a b1 = true ∧ noOcc a b2 = true ∧ r = .val (.str a) := by
  unfold repX at h
  obtain ⟨rs, e1, e2⟩ := ev_op h
  obtain ⟨r0, rs0, e3, e4, rfl⟩ := zaW e1
  obtain ⟨r1, rs1, e5, e6, rfl⟩ := zaW e4
  obtain ⟨r2, rs2, e7, e8, rfl⟩ := zaW e6
  cases zdf e8
  obtain ⟨rt, f1, f2⟩ := ev_op e3
  obtain ⟨q0, qs0, g3, g4, rfl⟩ := zaW f1
  obtain ⟨q1, qs1, g5, g6, rfl⟩ := zaW g4
  obtain ⟨q2, qs2, g7, g8, rfl⟩ := zaW g6
  cases zdf g8
  have cst : ∀ {l : List Nat} {ρ : List Slot} {r : R}, ev cf (.const (.str l)) ρ = some [r] → r = .val (.str l) := fun h => by replace h := (zaB _).symm.trans h; cases h; rfl
  rw [cst e5, cst e7] at e2
  rw [cst g5, cst g7] at f2
  obtain ⟨a, ha, ho1, hr0⟩ := zeZ (d := q0.ds) f2
  subst hr0
  obtain ⟨a2, ha2, ho2, hr⟩ := zeZ (d := .str a) e2
  have : a = a2 := by simpa [R.ds] using ha2
  subst this
  refine ⟨a, ?_, ho1, ho2, hr⟩
  replace g3 := (zbh _).symm.trans g3
  rw [List.getElem?_set] at g3
  simp only [if_true] at g3
  split at g3
  · rename_i d' e
    split at e <;> cases e
    cases g3
    exact ha
  · rename_i l e
    split at e <;> cases e
  · cases g3
end Mine
end MpZex
section MpZfx
open PySem PySem.Builtin.Str PySem.W PySem.Calls PyProof.Rows
namespace Mine
section
variable {cx : XCx} {ε : Sc}
theorem zku (G : LamG cx) {F : Addr → Prop} {s : Shared} (ok : CxOk cx) (w : Wd cx F s) {ps : Array Value} {gpos : Pos} {code : Value} {qual : PySem.Str} {h' : Heap} (tk : Nat) (g : s.heap.get? G.Pt = some (tabObj ps)) (hap : ∀ p q, (p, q) ∈ G.qs → p.line ≠ gpos.line ∨ p.col ≠ gpos.col)
    (hx : Heap.ExtBut G.Pt s.heap h') (alt : h'.get? G.Pt = some (tabObj ps) ∨ (codeAmong gpos ps.toList = none ∧ ∃ c', code = .ref c' ∧ s.heap.objs.size ≤ c' ∧ h'.CodeRec (.ref c') qual ∧ h'.get? G.Pt = some (tabObj (ps ++ #[rawInt gpos.line, rawInt gpos.col, .ref c'])))) :
    Step cx F s F { s with heap := h', toks := tk } := by
  have hX := w.xi
  rw [G.xf] at hX
  obtain ⟨fc, hd, ps0, g0, ht, hqs⟩ := hX
  rw [g] at g0
  have e0 : ps = ps0 := by cases g0; rfl
  subst e0
  have keep : ∀ a o, s.heap.get? a = some o → ¬ cx.X a → h'.get? a = some o := fun a o e nx => hx a o (fun e => nx ((G.xp _).mpr e)) e
  have hxi : TabXF G.c G.Pt G.qs F h' := by
    have hd' : CodeHd h' G.c G.Pt := by
      obtain ⟨o, vs, file, tf, flags, tg, inF, text, tt, e, r⟩ := hd
      exact ⟨o, vs, file, tf, flags, tg, inF, text, tt, keep _ _ e (w.nx _ fc), r⟩
    rcases alt with h | ⟨hn, c', rfl, hc', hrec, h⟩
    · exact ⟨fc, hd', ps, h, ht, fun p q hm cv hcv => let ⟨c4, e4, f4, r4⟩ := hqs p q hm cv hcv; ⟨c4, e4, f4, r4.at fun o e => keep _ _ e (w.nx _ f4)⟩⟩
    · have ea : (ps ++ #[rawInt gpos.line, rawInt gpos.col, .ref c']).toList = ps.toList ++ [rawInt gpos.line, rawInt gpos.col, .ref c'] := by simp
      refine ⟨fc, hd', _, h, by rw [ea]; exact TriplesOk_snoc _ _ _ _ ht, fun p q hm cv hcv => ?_⟩
      rw [ea, zdY ht (hap p q hm)] at hcv
      obtain ⟨c4, e4, f4, r4⟩ := hqs p q hm cv hcv
      exact ⟨c4, e4, f4, r4.at fun o e => keep _ _ e (w.nx _ f4)⟩
  refine ⟨fun _ h => h, fun _ h => .inl h, keep, rfl, ⟨fun a o e nx => keep a o (w.base a o e nx) nx, by rw [G.xf]; exact hxi, w.gens, w.f0, fun a h => ?_, w.nx, fun a h => ?_⟩⟩
  · obtain ⟨o, e⟩ := w.lt a h
    exact ⟨o, keep a o e (w.nx a h)⟩
  · rw [(G.xp a).mp h]
    rcases alt with h | ⟨_, _, _, _, _, h⟩ <;> exact ⟨_, h⟩
end
end Mine
end MpZfx
section Elx
namespace Mine
theorem e1_2 {α0 : Sort _} {P0 P1 : α0 → Prop} {C : Prop} (h : ∃ x0, P0 x0 ∧ P1 x0) (k : ∀ x0, P0 x0 → P1 x0 → C) : C := by
  obtain ⟨x0, p0, p1⟩ := h
  exact k x0 p0 p1
theorem e2_3 {α0 : Sort _} {α1 : Sort _} {P0 P1 P2 : α0 → α1 → Prop} {C : Prop} (h : ∃ x0 x1, P0 x0 x1 ∧ P1 x0 x1 ∧ P2 x0 x1) (k : ∀ x0 x1, P0 x0 x1 → P1 x0 x1 → P2 x0 x1 → C) : C := by
  obtain ⟨x0, x1, p0, p1, p2⟩ := h
  exact k x0 x1 p0 p1 p2
theorem i8_8 {α0 : Sort _} {α1 : Sort _} {α2 : Sort _} {α3 : Sort _} {α4 : Sort _} {α5 : Sort _} {α6 : Sort _} {α7 : Sort _} {P0 P1 P2 P3 P4 P5 P6 P7 : α0 → α1 → α2 → α3 → α4 → α5 → α6 → α7 → Prop} (x0 : α0) (x1 : α1) (x2 : α2) (x3 : α3) (x4 : α4) (x5 : α5) (x6 : α6) (x7 : α7) (p0 : P0 x0 x1 x2 x3 x4 x5 x6 x7) (p1 : P1 x0 x1 x2 x3 x4 x5 x6 x7) (p2 : P2 x0 x1 x2 x3 x4 x5 x6 x7) (p3 : P3 x0 x1 x2 x3 x4 x5 x6 x7) (p4 : P4 x0 x1 x2 x3 x4 x5 x6 x7) (p5 : P5 x0 x1 x2 x3 x4 x5 x6 x7) (p6 : P6 x0 x1 x2 x3 x4 x5 x6 x7) (p7 : P7 x0 x1 x2 x3 x4 x5 x6 x7) : ∃ x0 x1 x2 x3 x4 x5 x6 x7, P0 x0 x1 x2 x3 x4 x5 x6 x7 ∧ P1 x0 x1 x2 x3 x4 x5 x6 x7 ∧ P2 x0 x1 x2 x3 x4 x5 x6 x7 ∧ P3 x0 x1 x2 x3 x4 x5 x6 x7 ∧ P4 x0 x1 x2 x3 x4 x5 x6 x7 ∧ P5 x0 x1 x2 x3 x4 x5 x6 x7 ∧ P6 x0 x1 x2 x3 x4 x5 x6 x7 ∧ P7 x0 x1 x2 x3 x4 x5 x6 x7 := ⟨x0, x1, x2, x3, x4, x5, x6, x7, p0, p1, p2, p3, p4, p5, p6, p7⟩
end Mine
end Elx
section MpZgx
open PySem PySem.Builtin.Str PySem.W PySem.Calls PyProof.Rows
namespace Mine
theorem zjn (n : Nat) : passing (fun _ => true) n 0 = List.range n := by
  unfold passing; simp
theorem zg0 {f : D → Option (Option D)} (hf : ∀ d y, f d = some y → ∃ a, d = .str a ∧ y = some (.str a)) : ∀ {items l : List D}, compGo f items = some l → l = items ∧ ∀ d ∈ items, f d = some (some d)
  | [], l, h => by cases h; exact ⟨rfl, fun _ h => nomatch h⟩
  | d :: r, l, h => by
    unfold compGo at h
    split at h
    · cases h
    · rename_i e
      obtain ⟨a, _, e2⟩ := hf d _ e
      cases e2
    · rename_i y e
      obtain ⟨a, rfl, e2⟩ := hf d _ e
      cases e2
      split at h
      · rename_i ys e3
        cases h
        obtain ⟨rfl, h2⟩ := zg0 hf e3
        refine ⟨rfl, fun d' hd => ?_⟩
        rcases List.mem_cons.mp hd with rfl | hd
        · exact e
        · exact h2 d' hd
      · cases h
theorem zgx : ∀ {l : List D} {ls : List (List Nat)}, toStrs l = some ls → l = ls.map .str
  | [], ls, e => by cases e; rfl
  | d :: r, ls, e => by
    cases d <;> simp only [toStrs] at e <;> try cases e
    obtain ⟨ls', e', rfl⟩ := Option.map_eq_some_iff.mp e
    rw [List.map_cons, ← zgx e']
theorem zlN {a : List Nat} {ls : List (List Nat)} (z : a.length ≤ lim) (hz : (joinL a ls).length ≤ lim) : JoinOk ⟨a.toArray⟩ (ls.map fun x => PySem.Str.mk x.toArray) = true := by
  unfold JoinOk tooLong
  rw [zif, Nat.zero_add, List.map_map]
  simp only [Bool.not_eq_true', decide_eq_false_iff_not]
  rw [sizeLine_eq]
  unfold lim at hz z
  cases ls with
  | nil => simp
  | cons b r =>
    rw [zfT] at hz
    simp only [List.map_cons, List.sum_cons, Function.comp, zbL]
    have e : (List.map ((fun x => x.length + a.length) ∘ fun x => PySem.Str.mk x.toArray) r).sum = (r.map fun x => a.length + x.length).sum := by
      congr 1
      apply List.map_congr_left
      intro x _
      show (PySem.Str.mk x.toArray).length + a.length = _
      rw [zbL, Nat.add_comm]
    rw [e]
    omega
section
variable {cx : XCx} {ε : Sc}
set_option maxHeartbeats 1000000 in
theorem zhT (G : LamG cx) {sep x b1 c1 b2 c2 : PySem.Str} {lsep lb1 lc1 lb2 lc2 : List Nat} {k1 k2 k3 k4 k5 : Nat} {p1 p2 p3 p4 p5 p6 p7 p8 p9 ps px gpos apos pos : Pos} {scope : Scope} {iter : Expr} {it : X} {i : Nat} {qual : PySem.Str}
    (hsep : constD (.str sep) = some (.str lsep)) (hb1 : b1 = ⟨lb1.toArray⟩) (hb2 : b2 = ⟨lb2.toArray⟩) (hl : (apos.endLine == pos.line) = true) (hl1 : (p2.endLine == p5.line) = true) (hl2 : (p6.endLine == p9.line) = true)
    (hz : b1.length ≤ 10 ∧ c1.length ≤ 10) (hz2 : b2.length ≤ 10 ∧ c2.length ≤ 10) (hcode : ε.code = some (G.c, qual)) (hap : ∀ p q, (p, q) ∈ G.qs → p.line ≠ gpos.line ∨ p.col ≠ gpos.col)
    (hi : SoundI cx ε iter it) (hs : ∀ env x, genFold iter env x = pure x) (hco : scope.isCoroutine = false) (hcell : ∀ y ∈ scope.names, y.2 ≠ .cell) (hfree : ∀ y ∈ scope.names, y.2 ≠ .free) (h0 : scope.names.lookup (".0" : PySem.Str) = some NameKind.local)
    (hx : scope.names.lookup x = some .local) (hkind : scope.kind = .function) (hd : (x == ("__debug__" : PySem.Str)) = false) :
    Sound cx ε (.Call (.Attribute (.Constant (.str sep) k5 ps) "join" apos) [.GeneratorExp (repElt x b1 c1 b2 c2 k1 k2 k3 k4 p1 p2 p3 p4 p5 p6 p7 p8 p9) [⟨.Name x px, iter, [], 0⟩] scope gpos] [] pos)
      (.op .join (.cons (.const (.str lsep)) (.cons (.comp i it (.const (.bool true)) (repX i lb1 lc1 lb2 lc2)) .nil))) := by
  refine Sound.ofE ?_ fun _ => rfl
  intro n cf A env F s ρ ad m cm H res he Q E hQ
  obtain ⟨rs, e1, e2⟩ := ev_op he
  obtain ⟨r0, rs0, e3, e4, rfl⟩ := zaW e1
  obtain ⟨r1, rs1, e5, e6, rfl⟩ := zaW e4
  cases zdf e6
  refine e2_3 (zjH e5) fun items l f1 f2 q1 => ?_
  subst q1
  have hr0 : r0 = .val (.str lsep) := by replace e3 := (zaB _).symm.trans e3; cases e3; rfl
  subst hr0
  have turn : ∀ d y, turnC cf [i] one1 (.const (.bool true)) (repX i lb1 lc1 lb2 lc2) ρ d = some y → ∃ a, d = .str a ∧ y = some (.str a) ∧ noOcc a lb1 = true ∧ noOcc a lb2 = true := by
    intro d y h
    have h' : turnD (some [.val (.bool true)]) (ev cf (repX i lb1 lc1 lb2 lc2) (ρ.set i (.val d))) = some y := h
    unfold turnD truthR at h'
    simp only [R.ds, D.truth] at h'
    split at h'
    · rename_i r er
      obtain ⟨a, h1, h2, h3, h4⟩ := zmA er
      subst h4
      cases h'
      exact ⟨a, h1, rfl, h2, h3⟩
    · cases h'
  have cgs := zg0 (fun d y h => let ⟨a, h1, h2, _⟩ := turn d y h; ⟨a, h1, h2⟩) f2
  have hall := cgs.2
  have cg1 := cgs.1
  subst cg1
  have itemStr : ∀ j d, l[j]? = some d → ∃ a, d = D.str a ∧ noOcc a lb1 = true ∧ noOcc a lb2 = true := fun j d hj => by
    obtain ⟨a, h1, _, h3, h4⟩ := turn d _ (hall d (List.mem_of_getElem? hj))
    exact ⟨a, h1, h3, h4⟩
  have hc := (H.env.code _ _ hcode).1
  have hqual := (H.env.code _ _ hcode).2
  have hstG : starred (.GeneratorExp (repElt x b1 c1 b2 c2 k1 k2 k3 k4 p1 p2 p3 p4 p5 p6 p7 p8 p9) [⟨.Name x px, iter, [], 0⟩] scope gpos) = false := rfl
  have hany : (backTo pos (starEach [.GeneratorExp (repElt x b1 c1 b2 c2 k1 k2 k3 k4 p1 p2 p3 p4 p5 p6 p7 p8 p9) [⟨.Name x px, iter, [], 0⟩] scope gpos] env)).any (·.1) = false := by
    rw [zaN hstG, za8, List.any_cons]; rfl
  refine zeh rfl hl (by simp) hany ?_
  refine (zac hsep).ev n cf A env F s ρ ad m cm H _ e3 _ _ fun v F0 s0 st0 q0 => ?_
  have q0 := q0.brep
  obtain ⟨t0, rfl, p0', z0⟩ := BRep.str_inv (l := lsep) q0
  have H0 := H.step st0
  refine GM.join ?_
  refine Calls.callWith_builtin hany ?_
  rw [zaN hstG, za8]
  refine Calls.evalArgs_plain (Calls.spliced_cons ?_)
  have hclos : closureFor scope env = pure [] := closureFor_none hfree
  have hroom : A.depth < recursionLimit := Nat.lt_of_le_of_lt (Nat.le_add_right _ _) (Nat.lt_trans H.bud.dp (by decide))
  refine wpAny_GeneratorExp_walksQD H.bud.hd hco hclos hcell h0 hx hkind hroom ?_ (hs env)
  refine hi n cf A env F0 s0 ρ ad m cm H0 l f1 _ _ fun I F1 s1 fp wr P St J => ?_
  have ok := H.ok
  have w1 := J.st.wd
  refine ⟨w1.lim ok, ?_⟩
  have hX := w1.xi
  rw [G.xf] at hX
  obtain ⟨fc, hhd, tps, gP, htr, _⟩ := hX
  rw [hqual]
  refine zmS hc hhd gP htr fun code h2 tk2 hx2 alt => ?_
  have st2 := zku G ok w1 tk2 gP hap hx2 alt
  have w2 := st2.wd
  have nP : ∀ {a o}, cx.h0.get? a = some o → a ≠ G.Pt → h2.get? a = some o := fun e h => w2.base _ _ e fun hx => h ((G.xp _).mp hx)
  obtain ⟨bm, ob, b1', b2', b3', b4', b5', b6', b7', b8'⟩ := G.blt
  rw [H.env.glob]
  refine wpAny_builtinsFor (s := { s1 with heap := h2, toks := tk2 }) (w2.glob ok) b1' b2' (nP b5' b4') b6' b7' b8' ?_
  have szX : ∀ {b : Addr}, b ∈ wr → b ≠ G.Pt := fun hb e => by
    obtain ⟨o, eo⟩ := st0.wd.xex G.Pt ((G.xp _).mpr rfl)
    rw [← e, (J.new _ hb).1] at eo; cases eo
  have fpX : ∀ {b : Addr}, b ∈ fp → b ≠ G.Pt := fun hb e => by
    rcases J.deps _ hb with hb | hb
    · exact szX hb e
    · exact w1.nx _ hb ((G.xp _).mpr e)
  have hst2 : St 0 h2 := (J.W A H.bud.hd).frame _ _ _ J.s0 fun b hb o e => hx2 b o (fpX hb) e
  have hfp : ∀ b ∈ fp, b < h2.objs.size := fun b hb => by
    rcases J.deps _ hb with hb' | hb'
    · have := J.one _ hb'
      subst this
      obtain ⟨o, T, e, _⟩ := J.ty 0 _ hst2
      exact Heap.lt_size e
    · obtain ⟨o, e⟩ := w2.lt _ hb'
      exact Heap.lt_size e
  have hcs0 : ∀ {s : Shared} {F : Addr → Prop}, Wd cx F s → ∃ o, s.heap.get? cStatics = some o := fun w => by
    obtain ⟨_, ⟨o, _, _, e, _⟩, _⟩ := w.lim ok
    exact ⟨o, e⟩
  have hcw : cStatics ∉ wr := fun hm => by
    obtain ⟨o, e⟩ := hcs0 st0.wd
    rw [(J.new _ hm).1] at e; cases e
  have item : ∀ i v, P i v → ∃ a t, l[i]? = some (.str a) ∧ v = .str ⟨a.toArray⟩ t ∧ noOcc a lb1 = true ∧ noOcc a lb2 = true ∧ ∀ c ∈ a, c < 0x110000 := fun j v hv => by
    obtain ⟨d, hd1, hd2⟩ := J.item j v hv
    obtain ⟨a, rfl, ho1, ho2⟩ := itemStr j d hd1
    cases hd2 with
    | str t p z => exact ⟨a, t, hd1, rfl, ho1, ho2, p⟩
  refine e1_2 ok.nb fun mc nmc nmk => ?_
  refine i8_8 I fp wr l.length P St (fun _ => true) (fun i y => ∃ a t, l[i]? = some (.str a) ∧ y = .str ⟨a.toArray⟩ t ∧ ∀ c ∈ a, c < 0x110000) rfl J.W hst2 hfp (w2.lim ok) hcw (fun href hhref => ⟨?_, ?_⟩) ?_
  · intro A' E' i v s₂ m₂ hA hD hU hP hn hm hk
    exact wpAny_pure ⟨rfl, ⟨s₂.heap, s₂.toks, rfl, fun _ _ e => e⟩⟩
  · intro A' E' i v s₂ m₂ hA hD hU hP _ hn hm hk
    obtain ⟨a, t, hi, rfl, ho1, ho2, hcs⟩ := item i v hP
    have n1 : s₂.heap.Ns cStatics mc := nmc.at' fun o e => by
      have e2 := w2.base _ o e ok.limx
      exact hk _ (List.mem_range.mpr (Heap.lt_size e2)) hcw o (hhref _ _ e2)
    subst hb1; subst hb2
    refine rep_elt (t := t) (m := m₂) hl1 hl2 ho1 ho2 n1 nmk ?ka ?kb hn hm hd hz hz2 fun k => ?_
    case ka => exact hkind
    case kb => exact hx
    exact ⟨⟨a, t, hi, rfl, hcs⟩, ⟨s₂.heap, k, rfl, fun _ _ e => e⟩⟩
  · intro a h₅ tk gs hgb hag hsz₅ hk₅ W hat
    refine Calls.spliced_nil ?_
    show wpAny _ _ (call (.builtin "str.join") [.str ⟨lsep.toArray⟩ t0, .ref a]) _ _ _
    have e2' : opJoin [.str lsep, .list l] = some res := e2
    unfold opJoin at e2'
    split at e2'
    · rename_i s' l' ee
      cases ee
      split at e2'
      · rename_i ls els
        split at e2' <;> cases e2'
        rename_i hz3
        have hll := zgx els
        have hn : (passing (fun _ => true) l.length 0) = List.range l.length := zjn _
        refine SC.joinGen W.in4_2 (fun i s' st => st.1.typeIs) hat ?_ List.mem_cons_self (fun j v hv => ?_) (fun s' lt hm hacc => ?_) ?_
        · intro b hb
          show b < h₅.objs.size
          rw [hsz₅]
          have hag' : h2.objs.size < a := hag
          rcases List.mem_cons.mp hb with rfl | hb
          · exact Nat.lt_succ_self _
          · rcases List.mem_cons.mp hb with rfl | hb
            · exact Nat.lt_succ_of_lt hag'
            · exact Nat.lt_succ_of_lt (Nat.lt_trans (List.mem_range.mp hb) hag')
        · obtain ⟨i, _, a, t, _, rfl, _⟩ := hv
          exact ⟨_, _, rfl⟩
        · have hlen : lt.length = l.length := by
            have := hacc.1
            rw [hn, List.length_range] at this
            simpa [strValues] using this
          have at1 : ∀ j (hj : j < lt.length), ∃ a, ls[j]? = some a ∧ lt[j].1 = ⟨a.toArray⟩ ∧ ∀ c ∈ a, c < 0x110000 := fun j hj => by
            obtain ⟨i, hi, a, t, h1, h2, h3⟩ := hacc.2 j (.str lt[j].1 lt[j].2) (by simp [strValues, List.getElem?_eq_getElem hj])
            rw [hn, List.getElem?_range (hlen ▸ hj)] at hi
            cases hi
            injection h2 with h21 _
            rw [hll, List.getElem?_map] at h1
            obtain ⟨a', ha', e'⟩ := Option.map_eq_some_iff.mp h1
            cases e'
            exact ⟨a, ha', h21, h3⟩
          have hlsl : ls.length = l.length := by rw [hll, List.length_map]
          have hlt : lt.map (·.1) = ls.map fun x => PySem.Str.mk x.toArray := by
            apply List.ext_getElem?
            intro j
            by_cases hj : j < lt.length
            · obtain ⟨a, h1, h2, _⟩ := at1 j hj
              rw [List.getElem?_map, List.getElem?_map, h1, List.getElem?_eq_getElem hj]
              simp [h2]
            · rw [List.getElem?_eq_none (by simpa using hj), List.getElem?_eq_none (by rw [List.length_map, hlsl, ← hlen]; exact Nat.le_of_not_lt hj)]
          have chars : ∀ x ∈ ls, ∀ c ∈ x, c < 0x110000 := fun x hx => by
            obtain ⟨j, hj, e⟩ := List.mem_iff_getElem.mp hx
            obtain ⟨a, h1, _, h3⟩ := at1 j (by rw [hlen, ← hlsl]; exact hj)
            rw [List.getElem?_eq_getElem hj] at h1
            cases h1
            rw [← e]; exact h3
          rw [hlt]
          refine ⟨zlN z0 hz3, fun t' k => ?_⟩
          have keep2 : ∀ b o, b ∉ wr → h2.get? b = some o → s'.heap.get? b = some o := fun b o hb e => by
            refine hm.heap b o (fun hmem => ?_) (hk₅ b o e)
            rcases List.mem_cons.mp hmem with rfl | hmem
            · exact absurd (Heap.lt_size e) (Nat.lt_irrefl _)
            · exact hb hmem
          have nF : ∀ b, F1 b → b ∉ wr := fun b h hm => (J.new b hm).2 h
          have nXw : ∀ b, cx.X b → b ∉ wr := fun b h hm => szX hm ((G.xp b).mp h)
          have wd' : Wd cx F1 s' := by
            refine ⟨fun a o e nx => keep2 a o (nF a (w2.f0 a o e nx)) (w2.base a o e nx), ok.xi _ _ _ _ w2.xi (fun _ h => h) (fun a o h e => keep2 a o (h.elim (nF a) (nXw a)) e), ?_, w2.f0, fun a h => let ⟨o, e⟩ := w2.lt a h; ⟨o, keep2 a o (nF a h) e⟩, w2.nx, fun a h => let ⟨o, e⟩ := w2.xex a h; ⟨o, keep2 a o (nXw a h) e⟩⟩
            have g1 : GenOnlyQ s1.gens.size (s1.gens.push gs) s'.gens := hm.gens
            exact g1.bare (PyProof.Rows.AllBare.push (show PyProof.Rows.AllBare s1.gens from w1.gens) hgb)
          have stf : Step cx F0 s0 F1 s' := by
            refine ⟨J.st.sub, J.st.new, fun a o e nx => keep2 a o (fun hm => by rw [(J.new a hm).1] at e; cases e) (hx2 a o (fun e' => nx ((G.xp a).mpr e')) (J.st.keep a o e nx)), ?_, wd'⟩
            have o1 : s'.os = s1.os := hm.os
            exact o1.trans J.st.os
          unfold Txt.join
          rw [zfI]
          refine hQ _ F1 _ ((st0.trans stf).toks k) (.val (.str t' (fun c hc => ?_) hz3))
          rcases ziP hc with hc | ⟨x, hx, hc⟩
          · exact p0' c hc
          · exact chars x hx c hc
        · rw [hn, List.length_range]
          have := J.lim
          rw [sizeLine_eq]
          unfold lim at this
          omega
      · cases e2'
    · rename_i hne
      exact (hne _ _ rfl).elim
end
end Mine
end MpZgx
section MpZhx
open PySem PySem.Calls PyProof.Rows PySem.Builtin.Str
namespace Mine
section
variable {cx : XCx} {ε : Sc}
theorem zbj {x : Str} {T : String} {pos : Pos} (hk : ε.kinds.lookup x = some .globalImplicit) (hg : cx.mg x = none) (hn : x ≠ "__name__") (hv : bootBuiltins x = some (.type T)) (hd : (x == ("__debug__" : Str)) = false) : Sound cx ε (.Name x pos) (.const (.ty T)) := by
  refine Sound.ofE ?_ fun _ => rfl
  intro n cf A env F s ρ ad m cm H r hr Q E hQ
  replace hr := (zaB _).symm.trans hr
  cases hr
  exact zct H hk hg hn hv hd (hQ _ F s (Step.refl H.wd) (.val (.ty T)))
noncomputable abbrev dead : S := .assert (.const (.bool false))
theorem ex_dead {cf : Nat → List D → Option D} {ρ : List Slot} : ex cf dead ρ = none := rfl
theorem zaV {sts : List Stmt} : SoundSs cx ε sts dead := by
  intro n cf A env F s ρ ad m cm H ρ' o h
  rw [ex_dead] at h; cases h
theorem zeX {f : PySem.Str → PySem.Str → R} : ∀ d ds r, opStr2 f (d :: ds) = some r → ∃ l, d = .str l := by
  intro d ds r h
  cases d <;> first | exact ⟨_, rfl⟩ | cases h
theorem zmT : ∀ d ds r, opFind4 (d :: ds) = some r → ∃ l, d = .str l := by
  intro d ds r h
  cases d <;> first | exact ⟨_, rfl⟩ | cases h
theorem zjl : ∀ d ds r, opReplace (d :: ds) = some r → ∃ l, d = .str l := by
  intro d ds r h
  cases d <;> first | exact ⟨_, rfl⟩ | cases h
theorem zmQ : ∀ d ds r, opJoin (d :: ds) = some r → ∃ l, d = .str l := by
  intro d ds r h
  cases d <;> first | exact ⟨_, rfl⟩ | cases h
theorem zlj : ∀ d ds r, opSplit (d :: ds) = some r → ∃ l, d = .str l := by
  intro d ds r h
  cases d <;> first | exact ⟨_, rfl⟩ | cases h
section
variable {o : Expr} {apos pos : Pos} {es : List Expr} {xo x : X}
theorem m_rfind (hl : (apos.endLine == pos.line) = true) (hb : plainBase o = true) (hn : es.length < 30) (h0 : Sound cx ε o xo) (h : SoundL cx ε es x false) : Sound cx ε (.Call (.Attribute o "rfind" apos) es [] pos) (.op .rfind (.cons xo x)) :=
  zbg hb hl hn PySem.F.slot_str_rfind rfl h0 h (by intro d ds r h; delta opF at h; dsimp only at h; exact zeX d ds r h) zmD
theorem zfR (hl : (apos.endLine == pos.line) = true) (hb : plainBase o = true) (hn : es.length < 30) (h0 : Sound cx ε o xo) (h : SoundL cx ε es x false) : Sound cx ε (.Call (.Attribute o "startswith" apos) es [] pos) (.op .startswith (.cons xo x)) :=
  zbg hb hl hn PySem.F.slot_str_startswith rfl h0 h (by intro d ds r h; delta opF at h; dsimp only at h; exact zeX d ds r h) zhZ
theorem zkF (hl : (apos.endLine == pos.line) = true) (hb : plainBase o = true) (hn : es.length < 30) (h0 : Sound cx ε o xo) (h : SoundL cx ε es x false) : Sound cx ε (.Call (.Attribute o "endswith" apos) es [] pos) (.op .endswith (.cons xo x)) :=
  zbg hb hl hn PySem.F.slot_str_endswith rfl h0 h (by intro d ds r h; delta opF at h; dsimp only at h; exact zeX d ds r h) zjp
theorem zmM (hl : (apos.endLine == pos.line) = true) (hb : plainBase o = true) (hn : es.length < 30) (h0 : Sound cx ε o xo) (h : SoundL cx ε es x false) : Sound cx ε (.Call (.Attribute o "rstrip" apos) es [] pos) (.op .rstrip (.cons xo x)) :=
  zbg hb hl hn PySem.F.slot_str_rstrip rfl h0 h (by intro d ds r h; delta opF at h; dsimp only at h; exact zeX d ds r h) zlx
theorem zj7 (hl : (apos.endLine == pos.line) = true) (hb : plainBase o = true) (hn : es.length < 30) (h0 : Sound cx ε o xo) (h : SoundL cx ε es x false) : Sound cx ε (.Call (.Attribute o "lstrip" apos) es [] pos) (.op .lstrip (.cons xo x)) :=
  zbg hb hl hn PySem.F.slot_str_lstrip rfl h0 h (by intro d ds r h; delta opF at h; dsimp only at h; exact zeX d ds r h) zly
theorem m_find (hl : (apos.endLine == pos.line) = true) (hb : plainBase o = true) (hn : es.length < 30) (h0 : Sound cx ε o xo) (h : SoundL cx ε es x false) : Sound cx ε (.Call (.Attribute o "find" apos) es [] pos) (.op .find4 (.cons xo x)) :=
  zbg hb hl hn PySem.F.slot_str_find rfl h0 h (fun d ds r h => zmT d ds r h) zmI
theorem zlF (hl : (apos.endLine == pos.line) = true) (hb : plainBase o = true) (hn : es.length < 30) (h0 : Sound cx ε o xo) (h : SoundL cx ε es x false) : Sound cx ε (.Call (.Attribute o "replace" apos) es [] pos) (.op .replace (.cons xo x)) :=
  zbg hb hl hn PySem.F.slot_str_replace rfl h0 h (fun d ds r h => zjl d ds r h) zkE
theorem ziJ (hl : (apos.endLine == pos.line) = true) (hb : plainBase o = true) (hn : es.length < 30) (h0 : Sound cx ε o xo) (h : SoundL cx ε es x false) : Sound cx ε (.Call (.Attribute o "join" apos) es [] pos) (.op .join (.cons xo x)) :=
  zbg hb hl hn PySem.F.slot_str_join rfl h0 h (fun d ds r h => zmQ d ds r h) op_join
theorem zh2 (hl : (apos.endLine == pos.line) = true) (hb : plainBase o = true) (hn : es.length < 30) (h0 : Sound cx ε o xo) (h : SoundL cx ε es x false) : Sound cx ε (.Call (.Attribute o "split" apos) es [] pos) (.op .split (.cons xo x)) :=
  zbg hb hl hn PySem.F.slot_str_split rfl h0 h (fun d ds r h => zlj d ds r h) zmC
end
end
noncomputable def nthBody (p : Program) (n : Nat) : List Stmt := match p.main.body[n]? with
  | some (.FunctionDef _ _ b _ _ _ _ _ _ _) => b
  | _ => []
end Mine
end MpZhx
section MpZix
open PySem PySem.Calls PyProof.Rows PySem.Builtin.Str
namespace Mine
set_option genInjectivity false in
structure GN (cx : XCx) (fs : List (Str × Nat)) (bs : List Str) : Prop where
  f : ∀ x i, (x, i) ∈ fs → cx.mg x = some (.ref (cx.fa i))
  b : ∀ x, x ∈ bs → cx.mg x = none
theorem nfree {ks : List (Str × NameKind)} {x : Str} {k : NameKind} (h : ks.lookup x = some k) (hk : k ≠ .free := by decide) : ks.lookup x ≠ some .free := by
  rw [h]; intro e; cases e; exact hk rfl
theorem zh0 {is : List Nat} (h : is.length = 1 := by rfl) : ∀ d ds, one1 d = some ds → ds.length = is.length := by
  intro d ds e; cases e; exact h.symm
theorem zgu {is : List Nat} (h : is.length = 2 := by rfl) : ∀ d ds, two2 d = some ds → ds.length = is.length := by
  intro d ds e
  unfold two2 at e
  split at e <;> cases e
  exact h.symm
noncomputable def compOKb (ε : Sc) (scope : Scope) (xs : List Str) (is : List Nat) : Bool :=
  (scope.kind == .function) && scope.names.all (fun y => y.2 != .cell) && scope.names.all (fun y => y.2 != .local || scope.names.lookup y.1 == some .local) && xs.all (fun x => scope.names.lookup x == some .local)
    && scope.names.all (fun y => y.2 != .free || ((ε.vars.lookup y.1).isSome && ε.kinds.lookup y.1 != some .local)) && ε.vars.all (fun y => !is.contains y.2) && decide xs.Nodup && decide is.Nodup && decide (xs.length = is.length)
theorem zcy {ε : Sc} {scope : Scope} {xs : List Str} {is : List Nat} (h : compOKb ε scope xs is = true) : CompOK ε scope xs is := by
  unfold compOKb at h
  simp only [Bool.and_eq_true, decide_eq_true_eq, List.all_eq_true, Bool.or_eq_true, bne_iff_ne, beq_iff_eq, Bool.not_eq_true', ne_eq] at h
  obtain ⟨⟨⟨⟨⟨⟨⟨⟨h1, h2⟩, h3⟩, h4⟩, h5⟩, h6⟩, h7⟩, h8⟩, h9⟩ := h
  refine ⟨h1, h2, fun y hy e => (h3 y hy).elim (fun q => absurd e q) id, h4, fun y k hy e => ?_, fun y j hj hm => ?_, h7, h8, h9⟩
  · rcases h5 (y, k) hy with q | ⟨q1, q2⟩
    · exact absurd e q
    · exact ⟨Option.isSome_iff_exists.mp q1, q2⟩
  · have := h6 (y, j) (zbO hj)
    rw [List.contains_iff_mem.mpr hm] at this
    cases this
theorem zm7 {x : Str} {p : Pos} : (Expr.Name x p).pos = p := rfl
theorem pos_lc {e : Expr} {g : List Comprehension} {c : Scope} {p : Pos} : (Expr.ListComp e g c p).pos = p := rfl
theorem pos_tu {l : List Expr} {k : Nat} {p : Pos} : (Expr.Tuple l k p).pos = p := rfl
theorem kindOf_ε {env : Env} {ks : List (Str × NameKind)} (h : env.scope.names = ks) (x : Str) : env.kindOf x = ks.lookup x := by unfold Env.kindOf; rw [h]
theorem swapC {ks : List (Str × NameKind)} {elt : Expr} {gens : List Comprehension} {scope : Scope} {pos py : Pos} {y : Str} {line : Nat} (hk : ks.lookup y = some .local) (hp : (py.line == pos.line) = true) (ha : (scope.names.any fun (n, k) => n == y && (k == .local || k == .cell)) = false) :
    ∀ env : Env, env.scope.kind = .function → env.scope.names = ks → swapsWith (.ListComp elt gens scope pos) (some (.Name y py)) line env = pure true := by
  intro env h1 h2
  unfold swapsWith
  have hb : (env.blockKind == .function) = true := by unfold Env.blockKind; rw [h1]; rfl
  simp only [kindOf_ε h2, hk, hb, zm7, pos_lc, hp, ha]
  rfl
theorem zmu {ks : List (Str × NameKind)} {x y : Str} {p p' pos' posv : Pos} {k kv : Nat} {v1 v2 : Expr} (hx : ks.lookup x = some .local) (hy : ks.lookup y = some .local) (hp : (p'.line == p.line) = true)
    (hs1 : starred v1 = false) (hs2 : starred v2 = false) (hd : ([x, y].eraseDups.length != 2) = false) (hf : [v1, v2].all (foldedForSure 8) = false) (hc : [v1, v2].all (constantsAlone 8) = false) :
    ∀ env : Env, env.scope.kind = .function → env.scope.names = ks → swappedStores [.Tuple [.Name x p, .Name y p'] k pos'] (.Tuple [v1, v2] kv posv) env = pure (some [x, y]) := by
  intro env h1 h2
  have hb : (env.blockKind != .function) = false := by unfold Env.blockKind; rw [h1]; rfl
  unfold swappedStores
  have hp0 : (p.line == p.line) = true := beq_self_eq_true _
  have el : ((some NameKind.local : Option NameKind) == some NameKind.local) = true := rfl
  have hst : ∀ v : Expr, starred v = false → (match v with | .Starred .. => true | _ => false) = false := fun v h => by
    cases v <;> first | rfl | cases h
  simp only [List.length_cons, List.length_nil, List.head?_cons, Option.map_some, Option.getD_some, zm7, pos_tu, List.filterMap_cons, List.filterMap_nil, kindOf_ε h2, hx, hy, hp, hp0, el, Bool.and_self, if_true, hb, hf, hc, Bool.or_false]
  simp only [Nat.zero_add, Nat.reduceAdd, hd]
  have h3 : ([v1, v2].any fun x => match x with | .Starred .. => true | _ => false) = false := by
    simp only [List.any_cons, List.any_nil, Bool.or_false, hst v1 hs1, hst v2 hs2]
  exact (if_neg Bool.false_ne_true).trans ((if_neg fun q => Bool.false_ne_true (h3.symm.trans q)).trans rfl)
theorem apart1 {cx : XCx} {G : LamG cx} {p0 : Pos} {q0 : PySem.Str} {g : Pos} (h : G.qs = [(p0, q0)]) (ha : (p0.line != g.line || p0.col != g.col) = true) : ∀ p q, (p, q) ∈ G.qs → p.line ≠ g.line ∨ p.col ≠ g.col := by
  intro p q hm
  rw [h] at hm
  cases List.mem_singleton.mp hm
  simpa using ha
end Mine
end MpZix
section MpZkx
open PySem PySem.Calls PyProof.Rows PySem.Builtin.Str PySem.W
namespace Mine
section
variable {cx : XCx}
theorem len1 {P : List Value → Prop} (h : ∀ a, P [a]) (vs : List Value) (e : vs.length = 1) : P vs := by
  obtain ⟨a, rfl⟩ := List.length_eq_one_iff.mp e
  exact h a
theorem len2 {P : List Value → Prop} (h : ∀ a b, P [a, b]) (vs : List Value) (e : vs.length = 2) : P vs := by
  cases vs with
  | nil => cases e
  | cons a t => exact len1 (P := fun t => P (a :: t)) (h a) t (Nat.succ.inj e)
theorem len3 {P : List Value → Prop} (h : ∀ a b c, P [a, b, c]) (vs : List Value) (e : vs.length = 3) : P vs := by
  cases vs with
  | nil => cases e
  | cons a t => exact len2 (P := fun t => P (a :: t)) (h a) t (Nat.succ.inj e)
theorem zaM {fd : FuncData} {fn : Fn} {ps : List Str} (hva : fn.va = false) (h : ∀ vs : List Value, vs.length = fn.np → bindArgs fd ⟨vs, []⟩ = pure (ps.zip vs)) : BindOK cx fd fn ps := by
  intro A F s vs args ds ok w q hb Q E hQ
  unfold boundTo at hb
  rw [hva] at hb
  simp only [Bool.false_eq_true, if_false] at hb
  split at hb <;> cases hb
  rename_i hl
  rw [h vs (q.length.trans hl)]
  exact wpAny_pure (hQ F s vs (Step.refl w) q)
theorem zjL {fd : FuncData} {fn : Fn} {ps : List Str} {K : Frag} {T : Addr} {cls : Value} {items : Array Value} {n : Nat} (X : K.In cx.h0) (nx : ¬ cx.X T) (hva : fn.va = false)
    (hd : fd.defaults = .ref T) (ho : K.lookup T = some { cls := cls, data := .seq items n }) (h : ∀ vs : List Value, vs.length = fn.np → ∃ k, bindArgs fd ⟨vs, []⟩ = seqItems? fd.defaults >>= k ∧ k (some items) = pure (ps.zip vs)) : BindOK cx fd fn ps := by
  intro A F s vs args ds ok w q hb Q E hQ
  unfold boundTo at hb
  rw [hva] at hb
  simp only [Bool.false_eq_true, if_false] at hb
  split at hb <;> cases hb
  rename_i hl
  obtain ⟨k, h₁, h₂⟩ := h vs (q.length.trans hl)
  exact BindsTo.of_defaults (s := s) hd (w.base _ _ (X _ _ ho) nx) rfl h₁ h₂ _ _ _ _ (hQ F s vs (Step.refl w) q)
theorem zml {fd : FuncData} {fn : Fn} {x y : Str} (hva : fn.va = true) (hnp : fn.np = 1) (hbd : ∀ v r, bindArgs fd ⟨v :: r, []⟩ = (do let t ← newTuple r; pure [(x, v), (y, t)])) : BindOK cx fd fn [x, y] := by
  intro A F s vs args ds ok w q hb Q E hQ
  unfold boundTo at hb
  rw [hva, hnp] at hb
  simp only [if_true] at hb
  split at hb <;> cases hb
  rename_i hl
  cases q with
  | nil => simp at hl
  | @cons v vs d ds hv hvs =>
    rw [hbd]
    have hz : vs.length ≤ lim := by
      rw [hvs.length]
      have := hl.2
      rw [List.length_cons] at this
      omega
    refine wpAny_bind (wpAny_newTuple ?_ (zbm hz))
    refine wpAny_pure ?_
    obtain ⟨F3, st3, r⟩ := zjW ok w s.toks hz hvs
    exact hQ F3 _ [v, _] st3 (.cons (st3.rep w hv) (.cons r .nil))
end
noncomputable def fnOKb (ε : Sc) (fn : Fn) (ps : List Str) : Bool :=
  decide (ps.length = fn.np + (if fn.va then 1 else 0)) && decide ps.Nodup && (ps.zipIdx.all fun y => ε.vars.lookup y.1 == some y.2) && (ε.vars.all fun y => ε.kinds.lookup y.1 == some .local || ε.kinds.lookup y.1 == some .cell) && decide (ε.vars.map (·.2)).Nodup
theorem zlA {l : List (Str × Nat)} (h : (l.map (·.2)).Nodup) {x y : Str} {i : Nat} (h1 : (x, i) ∈ l) (h2 : (y, i) ∈ l) : x = y := by
  induction l with
  | nil => cases h1
  | cons z r ih =>
    rw [List.map_cons] at h
    obtain ⟨n1, n2⟩ := List.nodup_cons.mp h
    rcases List.mem_cons.mp h1 with e1 | h1
    · rcases List.mem_cons.mp h2 with e2 | h2
      · rw [← e2] at e1; exact congrArg Prod.fst e1
      · exact (n1 (List.mem_map.mpr ⟨_, h2, by rw [← e1]⟩)).elim
    · rcases List.mem_cons.mp h2 with e2 | h2
      · exact (n1 (List.mem_map.mpr ⟨_, h1, by rw [← e2]⟩)).elim
      · exact ih n2 h1 h2
theorem FnIs.ofK {cx : XCx} {K : Frag} (X : K.In cx.h0) {ε : Sc} {i : Nat} {a : Addr} {fn : Fn} {body : List Stmt} {ps : List Str} {oc : Value} {od : Option Addr} {osl : Array (Option Value)} {name : Str} {params : Arguments} {scope : Scope} {dV kV doc pm ct : Value} {c : Addr} {an : Option Addr}
    (ha : cx.fa i = a) (nx : ¬ cx.X a) (ho : K.lookup a = some ⟨oc, od, .func (fnOf name name params body scope dV kV doc pm an (.ref c) ct), osl⟩) (hcd : codeIn K (.ref c) name = true) (ncx : ¬ cx.X c) (hc : ∀ c' q, ε.code = some (c', q) → (.ref c : Value) = .ref c' ∧ name ++ ".<locals>." = q)
    (hb : BindOK cx (fnOf name name params body scope dV kV doc pm an (.ref c) ct) fn ps) (names : scope.names = ε.kinds) (co : scope.isCoroutine = false) (gen : scope.isGenerator = false) (kind : scope.kind = .function) (h : fnOKb ε fn ps = true) :
    FnIs cx ε i fn (fnOf name name params body scope dV kV doc pm an (.ref c) ct) body ps := by
  unfold fnOKb at h
  simp only [Bool.and_eq_true, decide_eq_true_eq, List.all_eq_true, Bool.or_eq_true, beq_iff_eq] at h
  obtain ⟨⟨⟨⟨h1, h2⟩, h3⟩, h4⟩, h5⟩ := h
  refine ⟨⟨_, by rw [ha]; exact X _ _ ho, rfl⟩, by rw [ha]; exact nx, ⟨c, rfl, ncx, codeRec_of X hcd⟩, rfl, hc, rfl, rfl, rfl, co, gen, kind, names, hb, fun args ds e => ?_, h2, fun k x e => ?_, fun x j e => h4 (x, j) (zbO e), ⟨fun x y i ex ey => zlA h5 (zbO ex) (zbO ey)⟩⟩
  · unfold boundTo at e
    split at e
    · rename_i hva
      split at e <;> cases e
      rename_i hl
      rw [h1, if_pos hva, List.length_append, List.length_take, List.length_singleton, Nat.min_eq_left hl.1]
    · rename_i hva
      split at e <;> cases e
      rename_i hl
      rw [h1, if_neg hva, hl]; rfl
  · have : (x, k) ∈ ps.zipIdx := List.mem_zipIdx_iff_getElem?.mpr (by simpa using e)
    exact h3 _ this
noncomputable abbrev mkCx (prog : Program) (w : World) (h₁ : Heap) (c P : Addr) (qs : List (Pos × PySem.Str)) (mg mb : Str → Option Value) (fa : Nat → Addr) (T : Nat → Addr) : XCx :=
  { prog := prog, w := w, h0 := ghostOf h₁ [(c, P)], X := fun a => a = P, XI := fun _ => True, T := T, mg := mg, mb := mb, fa := fa, XF := TabXF c P qs }
section
variable {prog : Program} {w : World} {h₁ : Heap} {c P : Addr} {qs : List (Pos × PySem.Str)} {mg mb : Str → Option Value} {fa : Nat → Addr} {p : Program} {loose : List Str} {mean : ExcName → Option Value} {K : Frag}
theorem zkU (c : Addr) : (ghostOf h₁ [(c, P)]).get? P = none := hideAll_none _ (by simp)
theorem zgn {a : Addr} {o : Obj} (e : (ghostOf h₁ [(c, P)]).get? a = some o) : a ≠ P := fun q => by rw [q, zkU c] at e; cases e
theorem zkd {a : Addr} {o : Obj} (e : (ghostOf h₁ [(c, P)]).get? a = some o) : h₁.get? a = some o := of_hideAll _ e
theorem ns_at {h : Heap} {a : Addr} {m : Str → Option Value} (x : h.Ns a m) : ∃ o, h.get? a = some o := let ⟨o, _, _, e, _⟩ := x; ⟨o, e⟩
theorem zkT (hT : TabsAt [(c, P)] h₁) (N : h₁.NoSeer) : (ghostOf h₁ [(c, P)]).NoSeer where
  statics := let ⟨mc, a, b⟩ := N.statics; ⟨mc, ghost_ns hT a, b⟩
  mods := let ⟨mc, a, b⟩ := N.mods; ⟨mc, ghost_ns hT a, b⟩
  imp := let ⟨mc, a, b⟩ := N.imp; ⟨mc, ghost_ns hT a, b⟩
  main := let ⟨mg, bm, ob, a, b, c, d, e⟩ := N.main; ⟨mg, bm, ob, ghost_ns hT a, b, ghost_get hT c (fun q => by rw [q] at d; cases d), d, e⟩
theorem ns_none {K : Frag} {h : Heap} {a : Addr} {m : Str → Option Value} {n : Str} (X : K.In h) (G : h.Ns a m) (e : nsIn K a n = some none) : m n = none := by
  obtain ⟨o, es, ep, ho, hd, _, hf⟩ := G
  unfold nsIn at e
  split at e
  · rename_i c d es' n' sl q
    have := X _ _ q
    rw [ho] at this
    cases this
    cases hd
    split at e
    · cases e
    · rename_i he
      rw [← hf]
      unfold nsFind findBy
      rw [← Array.find?_toList, he]
      rfl
  · cases e
theorem cxOk_of (hT : TabsAt [(c, P)] h₁) (X : K.In (ghostOf h₁ [(c, P)])) (T1 : Top p loose mean mg mb h₁) (hi : importsNone p = true) (htree : prog.given.tree = none) (hnb : nsIn K cStatics sharingNotToldKey = some none) {T : Nat → Addr} (tinj : ∀ i j, T i = T j → i = j) :
    CxOk (mkCx prog w h₁ c P qs mg mb fa T) := by
  have nP : ∀ {a : Addr} {m : Str → Option Value}, (ghostOf h₁ [(c, P)]).Ns a m → ¬ a = P := fun x => let ⟨_, e⟩ := ns_at x; zgn e
  have g := ghost_ns hT T1.g
  have b := ghost_ns hT T1.b
  obtain ⟨mc, s1, s2⟩ := T1.nolimit
  have s := ghost_ns hT s1
  exact ⟨fun F F' h h' x hF hk => x.mono hF hk, g, nP g, b, nP b, T1.builtins, ⟨mc, s, s2⟩, nP s, fun h hk => (zkT hT (T1.seer hi)).keeps fun a o e => hk a o e (zgn e), htree, ⟨mc, s, ns_none X s hnb⟩, tinj⟩
theorem wd_of (hT : TabsAt [(c, P)] h₁) {s : Shared} (hs : s.heap = h₁) (hg : s.gens = #[]) {T : Nat → Addr} : Wd (mkCx prog w h₁ c P qs mg mb fa T) (fun a => ∃ o, (ghostOf h₁ [(c, P)]).get? a = some o) s := by
  subst hs
  obtain ⟨hc, ht⟩ := hT _ List.mem_cons_self
  have C := (ghost_code hT).1
  refine ⟨fun a o e _ => zkd e, ⟨?_, hc, #[], ht, trivial, fun pos q _ cv e => by cases e⟩, by rw [hg]; intro g h; simp at h, fun a o e _ => ⟨o, e⟩, fun a ⟨o, e⟩ => ⟨o, zkd e⟩, fun a ⟨o, e⟩ => zgn e, fun a e => by subst e; exact ⟨_, ht⟩⟩
  obtain ⟨o, _, _, _, _, _, _, _, _, e, _⟩ := C
  exact ⟨o, e⟩
noncomputable def lamG_of (hT : TabsAt [(c, P)] h₁) (T1 : Top p loose mean mg mb h₁) {T : Nat → Addr} (hq : qs.Pairwise fun a b => a.1.line ≠ b.1.line ∨ a.1.col ≠ b.1.col) : LamG (mkCx prog w h₁ c P qs mg mb fa T) :=
  { c := c, Pt := P, qs := qs, xf := rfl, xp := fun _ => Iff.rfl, apart := hq, blt := by
      obtain ⟨bm, ob, b1, b2, b3, b4, b5, b6⟩ := T1.bmain
      have gb : (ghostOf h₁ [(c, P)]).get? bm = some ob := ghost_get hT b3 fun q => by rw [q] at b4; cases b4
      refine ⟨bm, ob, b1, b2, fun e => ?_, zgn gb, gb, b4, b5, b6⟩
      obtain ⟨o, es, ep, ho, hd, _⟩ := T1.g
      rw [e, ho] at b3
      cases b3
      rw [hd] at b6; cases b6 }
noncomputable def tabKeys (es : Array DictEntry) : Bool := es.toList.all fun e => match e.key with | .int k _ => e.hash == hashInt k | _ => false
noncomputable def tabVals (es : Array DictEntry) : Bool := (List.range 128).all fun c => match findBy Value.isInt es (c : Int) with
  | some (.str x _) => special.contains c && x == ⟨#[92, c]⟩
  | none => !special.contains c
  | _ => false
theorem tabG_of {cx : XCx} (X : K.In cx.h0) {d : Addr} {es : Array DictEntry} {n : Nat} (nx : ¬ cx.X d) (hl : K.lookup d = some ⟨.type "dict", none, .dict es n, #[]⟩) (sys : (d == sysModules) = false) (hk : tabKeys es = true) (hv : tabVals es = true) : ∃ G : TabG cx, G.d = d := by
  unfold tabKeys at hk
  rw [List.all_eq_true] at hk
  unfold tabVals at hv
  rw [List.all_eq_true] at hv
  refine ⟨{ d := d, f := fun k => findBy Value.isInt es k, nx := nx, hm := ⟨_, es, n, X _ _ hl, ⟨rfl, rfl, rfl⟩, rfl, fun e he => ?_, fun _ => rfl⟩, sys := sys, yes := fun c hc hs => ?_, no := fun c hc hs => ?_ }, rfl⟩
  · have := hk e (Array.mem_toList_iff.mpr he)
    split at this
    · rename_i k t e1
      exact ⟨k, by rw [e1]; simp [intKind, Value.isInt], (by simpa using this : e.hash = hashInt k)⟩
    · cases this
  · have := hv c (List.mem_range.mpr hc)
    split at this
    · rename_i x t e1
      simp only [Bool.and_eq_true, beq_iff_eq] at this
      exact ⟨t, by rw [e1, this.2]⟩
    · rw [hs] at this; cases this
    · cases this
  · have := hv c (List.mem_range.mpr hc)
    split at this
    · rw [hs] at this; cases this
    · assumption
    · cases this
end
end Mine
end MpZkx
section MpZlx
open PySem PySem.Calls PyProof.Rows PySem.Builtin.Str PySem.W
namespace Mine
section
variable {cx : XCx}
theorem zmg {ε : Sc} {i : Nat} {fn : Fn} {fd : FuncData} {body : List Stmt} {ps : List Str} (X : FnIs cx ε i fn fd body ps) (ok : CxOk cx) {n : Nat}
    {args : List D} {ρ : List Slot} (hb : bindD fn args = some ρ)
    {A : Around} {F : Addr → Prop} {s : Shared} {vs : List Value} (bud : Bud (n + 1) A) (w : Wd cx F s) (q : RepL cx.T F s.heap vs args) {Rs : Result → Shared → Prop}
    (k : ∀ (A' : Around) (env : Env) (F₁ : Addr → Prop) (s₂ : Shared) (m cm : Str → Option Value) (Q : Flow → Shared → Prop) (E : Value → Shared → Prop), BudE n A' → Wd cx F₁ s₂ → s₂.os = s.os → Frm cx ε env F₁ s₂ ρ (fun _ => 0) m cm → (∀ v s', Rs (.ok (.ret v)) s' → Q (.ret v) s') →
      wpAny (model cx.prog cx.w) A' (execs body env) Q E s₂) : codeAny (model cx.prog cx.w) A (.call (.ref (cx.fa i)) ⟨vs, []⟩) Rs s := by
  obtain ⟨ob, g, hfd⟩ := X.obj
  obtain ⟨c, hcode, ncx, hcd⟩ := X.code
  obtain ⟨ds, kk, hbd, rfl⟩ := zg2 hb
  have hroom : A.depth < recursionLimit := Nat.lt_of_le_of_lt (Nat.le_add_right _ _) (Nat.lt_trans bud.dp (by decide))
  refine codeAny_call_function hroom (w.base _ _ g X.nx) hfd X.co X.gen X.body (by rw [hcode]; exact hcd.at fun o e => w.base _ o e ncx) ?_
  refine X.bind A.in1 F s vs args ds ok w q hbd _ _ fun F₁ s₁ vs' st₁ q₁ => ?_
  rw [X.clo]
  have hlen : ds.length = ps.length := X.len _ _ hbd
  have hvl : vs'.length = ps.length := q₁.length.trans hlen
  have kindOf : ∀ x, (callEnvC fd s₁.heap.objs.size (cx.fa i)).kindOf x = ε.kinds.lookup x := fun x => by show fd.scope.names.lookup x = _; rw [X.names]
  have inps : ∀ x ∈ ps, ∃ k, ps[k]? = some x := fun x hx => by
    obtain ⟨k, hk, e⟩ := List.mem_iff_getElem.mp hx
    exact ⟨k, by rw [List.getElem?_eq_getElem hk, e]⟩
  have hkind : ∀ x ∈ ps.zip vs', fd.scope.names.lookup x.1 = some .local ∨ (fd.scope.names.lookup x.1 = some .cell ∧ ((cellsFrom (s₁.heap.objs.size + 1) fd.scope.names []).lookup x.1).isSome = true) := by
    intro x hx
    obtain ⟨k, hk⟩ := inps x.1 (List.of_mem_zip hx).1
    rw [X.names]
    rcases X.vk x.1 k (X.pv k x.1 hk) with h | h
    · exact .inl h
    · exact .inr ⟨h, zca (.inr (zbO h))⟩
  refine wpAny_newFunctionEnv_cells X.kind hkind fun env hen s₂ ic => ?_
  have hen' : env = callEnvC fd s₁.heap.objs.size (cx.fa i) := hen
  subst hen'
  obtain ⟨h₂, tk₂, rfl⟩ := ic.toInCall.same
  have keep₂ := ic.toInCall.keep
  have st₂ : Step cx F₁ s₁ F₁ { s₁ with heap := h₂, toks := tk₂ } := Step.grown ok st₁.wd tk₂ keep₂
  have w₂ := st₂.wd
  refine ⟨w₂.lim ok, codeAny_func ?_⟩
  let E₀ : Env := callEnvC fd s₁.heap.objs.size (cx.fa i)
  let m₀ : Str → Option Value := bindL E₀.kindOf (ps.zip vs') fun _ => none
  let cm₀ : Str → Option Value := bindC E₀.kindOf (ps.zip vs') fun _ => none
  have frL : s₁.heap.get? s₁.heap.objs.size = none := zbt _
  have frC : ∀ n c, E₀.cells.lookup n = some c → s₁.heap.get? c = none ∧ c ≠ s₁.heap.objs.size := fun n c hc => by
    have hlt : s₁.heap.objs.size < c := ic.above n c (mem_of_lookup hc)
    refine ⟨?_, Nat.ne_of_gt hlt⟩
    cases e : s₁.heap.get? c with
    | none => rfl
    | some o => exact absurd (Heap.lt_size e) (Nat.not_lt.mpr (Nat.le_of_lt hlt))
  have noOwn : ∀ j l, slotAt (ds.map Slot.val ++ List.replicate kk .unset) j ≠ .own l := fun j l e => by
    rw [zdc] at e
    split at e <;> cases e
  have fresh₀ : ∀ a, Mut E₀ (ds.map Slot.val ++ List.replicate kk .unset) (fun _ => 0) a → s₁.heap.get? a = none := fun a h => by
    rcases h with rfl | ⟨n, hn⟩ | ⟨j, l, hj, _⟩
    · exact frL
    · exact (frC n a hn).1
    · exact absurd hj (noOwn j l)
  have slots : ∀ x j, ε.vars.lookup x = some j → (ε.kinds.lookup x = some .local ∧ SlotRep cx F₁ h₂ (fun _ => 0) j (m₀ x) (slotAt (ds.map Slot.val ++ List.replicate kk .unset) j)) ∨
      ((ε.kinds.lookup x = some .cell ∨ ε.kinds.lookup x = some .free) ∧ (∃ c, E₀.cells.lookup x = some c) ∧ SlotRep cx F₁ h₂ (fun _ => 0) j (cm₀ x) (slotAt (ds.map Slot.val ++ List.replicate kk .unset) j)) := by
    intro x j hx
    have look : ∀ dj, ds[j]? = some dj → ps[j]? = some x ∧ ∃ v, vs'[j]? = some v ∧ Rep cx.T F₁ h₂ v dj := fun dj hj => by
      obtain ⟨v, hv, r⟩ := q₁.get hj
      have hlt : j < ps.length := by rw [← hlen]; exact (List.getElem?_eq_some_iff.mp hj).1
      have hp : ps[j]? = some ps[j] := List.getElem?_eq_getElem hlt
      have := X.sc.inj x ps[j] j hx (X.pv j _ hp)
      exact ⟨by rw [hp, this], v, hv, st₂.rep st₁.wd r⟩
    rw [zdc]
    rcases X.vk x j hx with hk | hk
    · left
      refine ⟨hk, ?_⟩
      split
      · rename_i dj hj
        obtain ⟨hp, v, hv, r⟩ := look dj hj
        have : m₀ x = some v := zim (by rw [kindOf]; exact hk) X.nodup hp hv
        rw [this]
        exact .val r
      · exact .unset
    · right
      refine ⟨.inl hk, ?_, ?_⟩
      · refine Option.isSome_iff_exists.mp (zca (.inr ?_))
        rw [X.names]
        exact zbO hk
      · split
        · rename_i dj hj
          obtain ⟨hp, v, hv, r⟩ := look dj hj
          have : cm₀ x = some v := zin (by rw [kindOf, hk]; intro e; cases e) X.nodup hp hv
          rw [this]
          exact .val r
        · exact .unset
  have fr : Frm cx ε E₀ F₁ { s₁ with heap := h₂, toks := tk₂ } (ds.map Slot.val ++ List.replicate kk .unset) (fun _ => 0) m₀ cm₀ := by
    refine ⟨⟨X.kind, X.names, X.glob, X.blt, X.codeAt, st₁.wd.newNotX frL, fun n c hc => st₁.wd.newNotX (frC n c hc).1, ic.toInCall.ns, ic.cell, slots⟩, st₁.wd.newNotF frL, fun n c hc => ⟨st₁.wd.newNotF (frC n c hc).1, (frC n c hc).2⟩, fun n n' c h h' => name_of_addr ic.apart (mem_of_lookup h) (mem_of_lookup h'), fun j _ l _ h => absurd h (noOwn j l), fun j l h => absurd h (noOwn j l)⟩
  have budE : BudE n (A.deeper E₀) := by
    obtain ⟨l, hl⟩ := bud.fs
    refine ⟨⟨bud.hd, znf bud.dp, zne bud.un, ⟨_, by show A.frames.map _ = _; rw [hl]; rfl⟩⟩, E₀, l, by show A.frames.map _ = _; rw [hl]; rfl, X.gen, X.co, X.blt, X.glob⟩
  exact k (A.deeper E₀) E₀ F₁ _ m₀ cm₀ _ _ budE w₂ (st₁.os) fr fun v s' h => h
end
end Mine
end MpZlx
section MpZmx
open PySem PySem.Calls PyProof.Rows PySem.Builtin.Str PySem.W
namespace Mine
theorem repInts {T T' : Nat → Addr} {F F' : Addr → Prop} {h : Heap} (hF : ∀ a, F a → F' a) {ns : List Int} : ∀ {vs : List Value}, RepL T F h vs (ns.map .int) → RepL T' F' h vs (ns.map .int) := by
  induction ns with
  | nil => intro vs q; cases q; exact .nil
  | cons i ns ih =>
    intro vs q
    cases q with
    | cons a r =>
      generalize hd : D.int i = d at a
      cases a <;> cases hd
      exact .cons (.int _ _) (ih r)
theorem zlp {T T' : Nat → Addr} {F F' : Addr → Prop} {h : Heap} (hF : ∀ a, F a → F' a) {ns : List Int} {v : Value} (r : Rep T F h v (.list (ns.map .int))) : Rep T' F' h v (.list (ns.map .int)) := by
  cases r with
  | list f g z q => exact .list (hF _ f) g z (repInts hF q)
theorem Frm.retok {cx : XCx} {T' : Nat → Addr} {ε : Sc} {env : Env} {F : Addr → Prop} {s : Shared} {ρ ρ' : List Slot} {ad : Nat → Addr} {m cm : Str → Option Value} (ok : CxOk cx) (w : Wd cx F s) (f : Frm cx ε env F s ρ ad m cm)
    (h : ∀ j, (∃ k, slotAt ρ j = .own [.str (tokC k)] ∧ slotAt ρ' j = .val (.tok k) ∧ T' k = ad j) ∨ ((slotAt ρ j = .unset ∨ ∃ ns : List Int, slotAt ρ j = .val (.list (ns.map .int))) ∧ slotAt ρ' j = slotAt ρ j)) :
    Wd { cx with T := T' } (fun a => F a ∨ ∃ j l, slotAt ρ j = .own l ∧ a = ad j) s ∧ Frm { cx with T := T' } ε env (fun a => F a ∨ ∃ j l, slotAt ρ j = .own l ∧ a = ad j) s ρ' ad m cm := by
  have hsub : ∀ a, F a → (F a ∨ ∃ j l, slotAt ρ j = .own l ∧ a = ad j) := fun _ h => .inl h
  have noOwn : ∀ j l, slotAt ρ' j ≠ .own l := fun j l e => by
    rcases h j with ⟨k, _, e2, _⟩ | ⟨e1, e2⟩
    · rw [e2] at e; cases e
    · rw [e2] at e
      rcases e1 with e1 | ⟨ns, e1⟩ <;> rw [e1] at e <;> cases e
  have slots : ∀ j ov, SlotRep cx F s.heap ad j ov (slotAt ρ j) → SlotRep { cx with T := T' } (fun a => F a ∨ ∃ j l, slotAt ρ j = .own l ∧ a = ad j) s.heap ad j ov (slotAt ρ' j) := by
    intro j ov q
    rcases h j with ⟨k, e1, e2, e3⟩ | ⟨e1, e2⟩
    · rw [e2]
      generalize hsl : slotAt ρ j = sl at q
      rw [e1] at hsl
      subst hsl
      cases q with
      | own nf nx g z q =>
        cases q with
        | cons q1 q2 =>
          cases q2
          cases q1 with
          | str t p z' =>
            rw [← e3]
            exact .val (Rep.tok (T := T') (k := k) (.inr ⟨j, _, e1, e3⟩) (e3 ▸ g))
    · rw [e2]
      rcases e1 with e1 | ⟨ns, e1⟩
      · rw [e1]; exact .unset
      · rw [e1] at q ⊢
        cases q with
        | val q => exact .val (zlp hsub q)
  refine ⟨⟨w.base, ok.xi _ _ _ _ w.xi hsub (fun _ _ _ e => e), w.gens, fun a o e nx => .inl (w.f0 a o e nx), fun a h => ?_, fun a h => ?_, w.xex⟩,
    ⟨⟨f.en.kind, f.en.names, f.en.glob, f.en.blt, f.en.code, f.en.lx, f.en.cxx, f.en.ns, f.en.cells, fun y j hy => (f.en.vars y j hy).imp (fun ⟨k, q⟩ => ⟨k, slots j _ q⟩) fun ⟨k, c, q⟩ => ⟨k, c, slots j _ q⟩⟩,
      fun h => ?_, fun n c hc => ⟨fun h => ?_, (f.cf n c hc).2⟩, f.cinj, fun i j l _ e => absurd e (noOwn i l), fun i l e => absurd e (noOwn i l)⟩⟩
  · rcases h with h | ⟨j, l, e, rfl⟩
    · exact w.lt a h
    · obtain ⟨_, _, ⟨vs, n, g⟩, _⟩ := f.own j l e
      exact ⟨_, g⟩
  · rcases h with h | ⟨j, l, e, rfl⟩
    · exact w.nx a h
    · exact (f.own j l e).2.1
  · rcases h with h | ⟨j, l, e, q⟩
    · exact f.lf h
    · exact (f.own j l e).2.2.2.1 q.symm
  · rcases h with h | ⟨j, l, e, q⟩
    · exact (f.cf n c hc).1 h
    · exact (f.own j l e).2.2.2.2 n (q ▸ hc)
noncomputable def tokA (a : Nat) (k : Nat) : Nat := if k = 0 then a else a + k
theorem zmt (a : Nat) : ∀ i j, tokA a i = tokA a j → i = j := by
  intro i j e
  unfold tokA at e
  split at e <;> split at e <;> omega
noncomputable abbrev XCx.withT (cx : XCx) (T : Nat → Addr) : XCx := { cx with T := T }
noncomputable def PlainRho (ρ : List Slot) : Prop := ∀ j, slotAt ρ j = .unset ∨ ∃ ns : List Int, slotAt ρ j = .val (.list (ns.map .int))
noncomputable def Inj (T : Nat → Addr) : Prop := ∀ i j, T i = T j → i = j
noncomputable abbrev newTok (i : Nat) (k : Nat) : S := .assignO i (.list (.cons (.const (.str (tokC k))) .nil))
theorem zl5 {cf : Nat → List D → Option D} {i k : Nat} {ρ : List Slot} (h : noApp i ρ = true) : ex cf (newTok i k) ρ = some (ρ.set i (.own [.str (tokC k)]), .next) := by
  unfold newTok
  rw [zeP, h, if_pos rfl]
  rfl
theorem zmN {cx : XCx} (hcx : ∀ T, Inj T → CxOk (cx.withT T)) {ε : Sc} {i i1 : Nat} {fn : Fn} {fd : FuncData} {st1 : Stmt} {rest : List Stmt} {ps : List Str} {sx : S} {n : Nat} {cf : Nat → List D → Option D} (X : ∀ T, FnIs (cx.withT T) ε i fn fd (st1 :: rest) ps)
    (hc : ∀ T, Inj T → CallOK (cx.withT T) n cf) (h1 : ∀ T, SoundS (cx.withT T) ε st1 (newTok i1 0)) (hs : ∀ T, Inj T → SoundSs (cx.withT T) ε rest sx)
    {ns : List Int} {ρ ρ' : List Slot} (hb : bindD fn [.list (ns.map .int)] = some ρ) (hp : PlainRho ρ) (hn : noApp i1 ρ = true) (hl : i1 < ρ.length)
    (he : ex cf sx (ρ.set i1 (.val (.tok 0))) = some (ρ', .ret (.bool true)))
    {A : Around} {F : Addr → Prop} {s : Shared} {v : Value} (bud : Bud (n + 1) A) (w : Wd cx F s) (q : Rep cx.T F s.heap v (.list (ns.map .int))) {Rs : Result → Shared → Prop}
    (hR : ∀ T F' s', Wd (cx.withT T) F' s' → s'.os = s.os → Rs (.ok (.ret (.bool true))) s') : codeAny (model cx.prog cx.w) A (.call (.ref (cx.fa i)) ⟨[v], []⟩) Rs s := by
  have inj0 : Inj (fun k : Nat => (k : Addr)) := fun i j e => e
  have ok0 := hcx _ inj0
  have w0 : Wd (cx.withT fun k : Nat => (k : Addr)) F s := ⟨w.base, w.xi, w.gens, w.f0, w.lt, w.nx, w.xex⟩
  refine zmg (cx := cx.withT fun k : Nat => (k : Addr)) (X fun k : Nat => (k : Addr)) ok0 hb bud w0 (.cons (zlp (fun _ h => h) q) .nil) fun A' env F₁ s₂ m cm Q E budE w₂ os fr hQ => ?_
  refine wpAny_execs_cons ?_
  refine h1 (fun k : Nat => (k : Addr)) n cf A' env F₁ s₂ ρ _ m cm ⟨ok0, (X fun k : Nat => (k : Addr)).sc, hc _ inj0, budE, w₂, fr⟩ _ _ (zl5 hn) _ _ fun f F' s' ad' m' cm' x fr' out => ?_
  cases out
  let T1 : Nat → Addr := tokA (ad' i1)
  have inj1 : Inj T1 := zmt _
  have hset : ∀ j, slotAt (ρ.set i1 (.own [.str (tokC 0)])) j = if j = i1 then .own [.str (tokC 0)] else slotAt ρ j := fun j => by rw [zbN, if_pos hl]
  have hset' : ∀ j, slotAt (ρ.set i1 (.val (.tok 0))) j = if j = i1 then .val (.tok 0) else slotAt ρ j := fun j => by rw [zbN, if_pos hl]
  obtain ⟨w1, f1⟩ := fr'.retok (T' := T1) (ρ' := ρ.set i1 (.val (.tok 0))) ok0 x.wd fun j => by
    rw [hset, hset']
    by_cases hj : j = i1
    · subst hj
      rw [if_pos rfl, if_pos rfl]
      exact .inl ⟨0, rfl, rfl, rfl⟩
    · rw [if_neg hj, if_neg hj]
      exact .inr ⟨hp j, rfl⟩
  refine hs T1 inj1 n cf A' env _ s' _ ad' m' cm' ⟨hcx _ inj1, (X T1).sc, hc _ inj1, budE, w1, f1⟩ ρ' _ he _ _ fun f F'' s'' ad'' m'' cm'' x' fr'' out' => ?_
  cases out' with
  | ret r =>
    cases r
    exact hQ _ _ (hR T1 F'' s'' x'.wd (x'.os.trans (x.os.trans os)))
end Mine
end MpZmx
section MpZnx
open PySem PySem.Calls PyProof.Rows PySem.Builtin.Str PySem.W
namespace Mine
theorem zdP {β : Type} {p : Nat → Bool} {x : Nat} {j : β} : ∀ {l : List (Nat × β)}, (l.filter fun y => p y.1).lookup x = some j → l.lookup x = some j ∧ p x = true
  | [], e => by cases e
  | (y, b) :: r, e => by
    rw [List.filter_cons] at e
    split at e
    · rename_i hp
      rw [List.lookup_cons] at e ⊢
      cases hx : x == y with
      | true =>
        rw [hx] at e
        exact ⟨e, by rw [beq_iff_eq.mp hx]; exact hp⟩
      | false =>
        rw [hx] at e
        exact zdP e
    · rename_i hp
      obtain ⟨h1, h2⟩ := zdP e
      refine ⟨?_, h2⟩
      rw [List.lookup_cons]
      cases hx : x == y with
      | true => rw [beq_iff_eq.mp hx] at h2; exact absurd h2 hp
      | false => exact h1
noncomputable abbrev dropK (P : Addr) (K : Frag) : Frag := K.filter fun y => (fun a : Nat => a != P) y.1
theorem ziQ {K : Frag} {h₁ : Heap} {c P : Addr} (X : K.In h₁) : (dropK P K).In (ghostOf h₁ [(c, P)]) := fun a o e => by
  obtain ⟨h1, h2⟩ := zdP (p := fun a : Nat => a != P) e
  exact hideAll_get _ (X a o h1) (by simpa using h2)
theorem gn_of {cx : XCx} {fs : List (Str × Nat)} {bs : List Str} (h1 : ∀ p ∈ fs, cx.mg p.1 = some (.ref (cx.fa p.2))) (h2 : ∀ x ∈ bs, cx.mg x = none) : GN cx fs bs := ⟨fun x i h => h1 (x, i) h, h2⟩
theorem zka {T : Nat → Addr} {F : Addr → Prop} {h : Heap} : ∀ {vs : List Value} {ns : List Int}, IntsAre vs ns → RepL T F h vs (ns.map .int)
  | _, _, .nil => .nil
  | _, _, .cons n t r => .cons (.int n t) (zka r)
theorem zlY {prog : Program} {w : World} {c P : Addr} {qs : List (Pos × PySem.Str)} {mg mb : Str → Option Value} {fa : Nat → Addr} {T : Nat → Addr} {cw : ClaimW} {cl : Str → Option Addr} {mean : ExcName → Option Value} {args : List WData} {s₁ s' : Shared} {F' : Addr → Prop}
    (hT : TabsAt [(c, P)] s₁.heap) (hr : ∀ x, cw.raises args x = false) (hp : cw.post args (.bool true) args = true) (wd : Wd (mkCx prog w s₁.heap c P qs mg mb fa T) F' s') (os : s'.os = s₁.os) : GoodWG cw cl mean args s₁ (.ok (.ret (.bool true))) s' := by
  obtain ⟨hc, ht⟩ := hT _ List.mem_cons_self
  obtain ⟨_, _, ps, hP, _⟩ := wd.xi
  refine ⟨.inl ⟨.bool true, .bool true, [], rfl, hr, .bool true, hp, fun _ => ⟨List.nodup_nil, fun a h => nomatch h⟩⟩, ⟨fun b o e => ?_, fun b o e => ?_⟩, os, wd.gens⟩
  · by_cases hb : b = P
    · subst hb
      have e2 : o = tabObj #[] := Option.some.inj (e.symm.trans ht)
      subst e2
      exact .inr (.inl ⟨(hc.tab ht).isCodeTable, rfl, #[], ps, rfl, by rw [Array.empty_append]; exact hP⟩)
    · exact .inl (wd.base b o (ghost_ne e (by simpa using hb)) hb)
  · by_cases hb : b = P
    · subst hb
      exact ⟨_, hP⟩
    · exact ⟨o, wd.base b o (ghost_ne e (by simpa using hb)) hb⟩
end Mine
end MpZnx
section MpZjx
open PySem PySem.Calls PyProof.Rows PySem.Builtin.Str
namespace Mine
section
variable {cx : XCx} {ε : Sc}
theorem zlo {T : Nat → Addr} {F : Addr → Prop} {h : Heap} : ∀ {vs : List Value} {ds : List D}, vs.length = ds.length → (∀ (i : Nat) v d, vs[i]? = some v → ds[i]? = some d → Rep T F h v d) → RepL T F h vs ds
  | [], [], _, _ => .nil
  | v :: vs, d :: ds, hl, hp => .cons (hp 0 v d rfl rfl) (zlo (by simpa using hl) fun i v d h1 h2 => hp (i + 1) v d h1 h2)
  | [], _ :: _, hl, _ => by simp at hl
  | _ :: _, [], hl, _ => by simp at hl
theorem zh3 {A : Around} (hh : A.handled = none) {F₀ F : Addr → Prop} {s₀ s : Shared} (ok : CxOk cx) (st : Step cx F₀ s₀ F s) {r : Addr} {a b c : Int} {t u v : Tok} (hr : IsRange s.heap r a b c t u v) (hs : Builtin.Range.small a b c = true)
    {k : Nat} (hk : Builtin.Range.rangeSize a b c = (k : Int)) (hl : k ≤ lim) {Q : Value → Shared → Prop} {E : Value → Shared → Prop} (hQ : Post cx F₀ s₀ (.own ((upTo k a c).map .int)) Q) : wpAny (model cx.prog cx.w) A (call (.type "list") [.ref r]) Q E s := by
  refine call_list_range hh hr hs hk (by unfold lim at hl; omega) fun h' tk acc c' keep hS hacc => ?_
  have hf : s.heap.get? s.heap.objs.size = none := zbt _
  have st' := st.trans (Step.grown ok st.wd tk keep)
  have nx := st.wd.newNotX hf
  refine hQ _ _ _ st' (.own (n := c') (st.fresh nx hf) (st.wd.newNotF hf) nx (vs := acc.toList) (by simpa using hS) (by simp [hacc.1]; exact hl) (zlo (by simp [hacc.1, upTo]) fun i v d h1 h2 => ?_))
  obtain ⟨tk', rfl⟩ := hacc.2 i v (by simpa using h1)
  have hi : i < k := by
    have := (List.getElem?_eq_some_iff.mp h1).1
    simpa [hacc.1] using this
  have : d = .int (a + i * c) := by
    unfold upTo at h2
    rw [List.map_map, List.getElem?_map, List.getElem?_range hi] at h2
    have := Option.some.inj h2
    rw [← this]
    show D.int (a + c * (i : Int)) = _
    rw [Int.mul_comm]
  rw [this]
  exact .int _ tk'
theorem zkG {A : Around} {n : Nat} (hb : BudE n A) {F₀ F : Addr → Prop} {s₀ s : Shared} (ok : CxOk cx) (st : Step cx F₀ s₀ F s) {vs : List Value} {ds : List D} (q : BRepL cx F s.heap vs ds) {l : List D} (hl : opRange ds = some l)
    {Q : Value → Shared → Prop} {E : Value → Shared → Prop} (hQ : Post cx F₀ s₀ (.own l) Q) :
    wpAny (model cx.prog cx.w) A (call (.type "range") vs) (fun v s₁ => wpAny (model cx.prog cx.w) A (call (.type "list") [v]) Q E s₁) E s :=
  zhz ok st q hl fun r a b c t u v k s' st' hr hs hk hl' e => zh3 hb.hd ok st' hr hs hk hl' (e ▸ hQ)
theorem zd5 {p p' pos' pos : Pos} {es : List Expr} {x : X} (hk : ε.kinds.lookup ("list" : Str) = some .globalImplicit) (hg : cx.mg ("list" : Str) = none) (hk' : ε.kinds.lookup ("range" : Str) = some .globalImplicit) (hg' : cx.mg ("range" : Str) = none) (h : SoundL cx ε es x false) :
    Sound cx ε (.Call (.Name "list" p) [.Call (.Name "range" p') es [] pos'] [] pos) (.op .listOf (.cons (.rangeI x) .nil)) := by
  refine Sound.ofE ?_ fun _ => rfl
  intro n cf A env F s ρ ad m cm H res he Q E hQ
  obtain ⟨rs, e1, e2⟩ := ev_op he
  obtain ⟨r, rs', e3, e4, rfl⟩ := zaW e1
  cases zdf e4
  obtain ⟨ds, l, e5, e6, rfl⟩ : ∃ ds l, ev cf x ρ = some ds ∧ opRange (ds.map R.ds) = some l ∧ r = .val (.list l) := by
    replace e3 := (zaA _).symm.trans e3
    split at e3
    · rename_i ds e
      obtain ⟨l, e7, e8⟩ := Option.map_eq_some_iff.mp e3
      cases e8
      exact ⟨ds, l, e, e7, rfl⟩
    · cases e3
  cases e2
  rw [zbo (by intro _ _ _ e; cases e)]
  refine wpAny_bind (zct H hk hg (by decide) (v := .type "list") (by rfl) (by decide) ?_)
  rw [zaN rfl, za8]
  refine PyProof.Rows.callWith_type rfl (Calls.evalArgs_plain (Calls.spliced_cons ?_))
  rw [zbo (by intro _ _ _ e; cases e)]
  refine wpAny_bind (zct H hk' hg' (by decide) (v := .type "range") (by rfl) (by decide) ?_)
  refine PyProof.Rows.callWith_type (zbP h) (zb2 h H e5 fun vs F' s' st q => ?_)
  refine wpAny_mono (zkG H.bud H.ok st q.brep e6 hQ) (fun v s₁ h₁ => ?_) fun _ _ x => x
  exact Calls.spliced_nil h₁
end
end Mine
end MpZjx
section MqAx
open PySem PySem.Calls PyProof.Rows PySem.Builtin.Str PySem.SeqAt PySem.AutoSeq1 PySem.MeetsSeq PySem.MeetsSeq2 PySem.MeetsSeq3 PySem.SeqRoads2
namespace Mine
inductive StrVs : List Value → List (List Nat) → Prop
  | nil : StrVs [] []
  | cons {l : List Nat} {t : Tok} {vs : List Value} {ls : List (List Nat)} : StrVs vs ls → StrVs (.str ⟨l.toArray⟩ t :: vs) (l :: ls)
theorem zgp {vs : List Value} {i : Nat} {v : Value} {r : List Value} (h : vs.drop i = v :: r) : vs.toArray[((i : Nat) : Int).toNat]? = some v ∧ vs.drop (i + 1) = r := by
  constructor
  · rw [Int.toNat_natCast, List.getElem?_toArray, ← Nat.add_zero i, ← List.getElem?_drop, h]; rfl
  · rw [← List.drop_drop, h]; rfl
theorem zfg {vs : List Value} {i : Nat} (h : vs.drop i = []) : vs.toArray[((i : Nat) : Int).toNat]? = none := by
  rw [Int.toNat_natCast, List.getElem?_toArray, List.getElem?_eq_none_iff]
  exact List.drop_eq_nil_iff.mp h
theorem zcP {vs : List Value} {i : Nat} {r : List Value} (h : vs.drop i = r) (hi : i ≤ vs.length) : vs.toArray.size = i + r.length := by
  have := congrArg List.length h
  rw [List.length_drop] at this
  rw [List.size_toArray, ← this, Nat.add_sub_cancel' hi]
theorem zma (A : Around) (s : Shared) (a b : List Nat) (t u : Tok) : EqAt A s (.str ⟨a.toArray⟩ t) (.str ⟨b.toArray⟩ u) (decide (a = b)) := by
  have h := EqAt.str_str (A := A) (s := s) ⟨a.toArray⟩ t ⟨b.toArray⟩ u
  have e : ((⟨a.toArray⟩ : PySem.Str) == ⟨b.toArray⟩) = decide (a = b) := by
    by_cases q : a = b
    · subst q; simp
    · rw [decide_eq_false q, beq_eq_false_iff_ne]
      intro h; exact q (by simpa using h)
  rwa [e] at h
section
variable {l b : Addr} {vs ws : List Value} {n n2 : Nat}
theorem lt_loop : ∀ (xs ys : List (List Nat)) (i : Nat), StrVs (vs.drop i) xs → StrVs (ws.drop i) ys → i ≤ vs.length → i ≤ ws.length → Meets (Builtin.«list.__eq__.loop» ⟨[.ref l, .ref b, rawInt i, rawInt 0], []⟩)
    (fun A R s => s.heap.get? l = some (lobj vs.toArray n) ∧ s.heap.get? b = some (lobj ws.toArray n2) ∧ R (.ok (.ret (.bool (ltSs xs ys)))) s) := by
  intro xs
  induction xs with
  | nil =>
    intro ys i q1 q2 l1 l2 prog w A R s h
    obtain ⟨hp, g, d, tk, os⟩ := s; obtain ⟨hl, hb, h⟩ := h
    generalize e1 : vs.drop i = r1 at q1
    generalize e2 : ws.drop i = r2 at q2
    cases q1
    have z1 := zcP e1 l1
    have z2 := zcP e2 l2
    wp_walk using wpAny_loadPart' hl, wpAny_loadPart' hb
    rw [zfg e1]
    wp_walk using wpAny_loadPart' hl, wpAny_loadPart' hb
    show R (.ok (.ret (.bool (decide (vs.toArray.size < ws.toArray.size))))) _
    rw [z1, z2]
    cases q2 with
    | nil => rw [decide_eq_false (by simp)]; exact h
    | cons q2 => rw [decide_eq_true (by simp)]; exact h
  | cons x xs ih =>
    intro ys i q1 q2 l1 l2 prog w A R s h
    obtain ⟨hp, g, d, tk, os⟩ := s; obtain ⟨hl, hb, h⟩ := h
    generalize e1 : vs.drop i = r1 at q1
    generalize e2 : ws.drop i = r2 at q2
    cases q1 with | cons q1 =>
    have z1 := zcP e1 l1
    have z2 := zcP e2 l2
    obtain ⟨g1, e1'⟩ := zgp e1
    cases q2 with
    | nil =>
      wp_walk using wpAny_loadPart' hl, wpAny_loadPart' hb
      rw [g1, zfg e2]
      wp_walk using wpAny_loadPart' hl, wpAny_loadPart' hb
      show R (.ok (.ret (.bool (decide (vs.toArray.size < ws.toArray.size))))) _
      rw [z1, z2, decide_eq_false (by simp)]
      exact h
    | cons q2 =>
      obtain ⟨g2, e2'⟩ := zgp e2
      wp_walk using wpAny_loadPart' hl, wpAny_loadPart' hb
      rw [g1, g2]
      refine wpAny_bind (zma _ _ _ _ _ _ prog w _ _ ?_)
      have hc : ((i : Int) + 1) = ((i + 1 : Nat) : Int) := by push_cast; rfl
      unfold ltSs at h
      rename_i y _ _ _
      by_cases hxy : x = y
      · rw [if_pos hxy] at h
        rw [decide_eq_true hxy]
        wp_walk
        rw [hc]
        refine ⟨plainId_quiet plain_eq_loop _, codeAny_builtin entry_eq_loop ?_⟩
        rw [Around.under_plainId plain_eq_loop _]
        rw [List.length_cons, List.size_toArray] at z1 z2
        exact ih _ (i + 1) (e1' ▸ q1) (e2' ▸ q2) (z1 ▸ Nat.add_le_add_left (Nat.succ_le_succ (Nat.zero_le _)) i) (z2 ▸ Nat.add_le_add_left (Nat.succ_le_succ (Nat.zero_le _)) i) prog w A R _ ⟨hl, hb, h⟩
      · rw [if_neg hxy] at h
        rw [decide_eq_false hxy]
        wp_walk using wpAny_loadPart' hl, wpAny_loadPart' hb
        rw [g1, g2]
        refine wpAny_bind ?_
        exact P.lt_str (wpAny_pure h)
theorem gt_loop : ∀ (xs ys : List (List Nat)) (i : Nat), StrVs (vs.drop i) xs → StrVs (ws.drop i) ys → i ≤ vs.length → i ≤ ws.length → Meets (Builtin.«list.__eq__.loop» ⟨[.ref l, .ref b, rawInt i, rawInt 4], []⟩)
    (fun A R s => s.heap.get? l = some (lobj vs.toArray n) ∧ s.heap.get? b = some (lobj ws.toArray n2) ∧ R (.ok (.ret (.bool (ltSs ys xs)))) s) := by
  intro xs
  induction xs with
  | nil =>
    intro ys i q1 q2 l1 l2 prog w A R s h
    obtain ⟨hp, g, d, tk, os⟩ := s; obtain ⟨hl, hb, h⟩ := h
    generalize e1 : vs.drop i = r1 at q1
    generalize e2 : ws.drop i = r2 at q2
    cases q1
    have z1 := zcP e1 l1
    have z2 := zcP e2 l2
    wp_walk using wpAny_loadPart' hl, wpAny_loadPart' hb
    rw [zfg e1]
    wp_walk using wpAny_loadPart' hl, wpAny_loadPart' hb
    show R (.ok (.ret (.bool (decide (vs.toArray.size > ws.toArray.size))))) _
    rw [z1, z2]
    cases q2 with
    | nil => rw [decide_eq_false (by simp)]; exact h
    | cons q2 => rw [decide_eq_false (by simp)]; exact h
  | cons x xs ih =>
    intro ys i q1 q2 l1 l2 prog w A R s h
    obtain ⟨hp, g, d, tk, os⟩ := s; obtain ⟨hl, hb, h⟩ := h
    generalize e1 : vs.drop i = r1 at q1
    generalize e2 : ws.drop i = r2 at q2
    cases q1 with | cons q1 =>
    have z1 := zcP e1 l1
    have z2 := zcP e2 l2
    obtain ⟨g1, e1'⟩ := zgp e1
    cases q2 with
    | nil =>
      wp_walk using wpAny_loadPart' hl, wpAny_loadPart' hb
      rw [g1, zfg e2]
      wp_walk using wpAny_loadPart' hl, wpAny_loadPart' hb
      show R (.ok (.ret (.bool (decide (vs.toArray.size > ws.toArray.size))))) _
      rw [z1, z2, decide_eq_true (by simp)]
      exact h
    | cons q2 =>
      obtain ⟨g2, e2'⟩ := zgp e2
      wp_walk using wpAny_loadPart' hl, wpAny_loadPart' hb
      rw [g1, g2]
      refine wpAny_bind (zma _ _ _ _ _ _ prog w _ _ ?_)
      have hc : ((i : Int) + 1) = ((i + 1 : Nat) : Int) := by push_cast; rfl
      unfold ltSs at h
      rename_i y _ _ _
      by_cases hxy : x = y
      · rw [if_pos (Eq.symm hxy)] at h
        rw [decide_eq_true hxy]
        wp_walk
        rw [hc]
        refine ⟨plainId_quiet plain_eq_loop _, codeAny_builtin entry_eq_loop ?_⟩
        rw [Around.under_plainId plain_eq_loop _]
        rw [List.length_cons, List.size_toArray] at z1 z2
        exact ih _ (i + 1) (e1' ▸ q1) (e2' ▸ q2) (z1 ▸ Nat.add_le_add_left (Nat.succ_le_succ (Nat.zero_le _)) i) (z2 ▸ Nat.add_le_add_left (Nat.succ_le_succ (Nat.zero_le _)) i) prog w A R _ ⟨hl, hb, h⟩
      · rw [if_neg (fun e => hxy (Eq.symm e))] at h
        rw [decide_eq_false hxy]
        wp_walk using wpAny_loadPart' hl, wpAny_loadPart' hb
        rw [g1, g2]
        refine wpAny_bind ?_
        exact P.gt_str (wpAny_pure h)
theorem list_lt : Meets (Builtin.«list.__lt__» ⟨[.ref l, .ref b], []⟩) (fun A R s => s.heap.get? l = some (lobj vs.toArray n) ∧ s.heap.get? b = some (lobj ws.toArray n2) ∧ ∃ xs ys, StrVs vs xs ∧ StrVs ws ys ∧ R (.ok (.ret (.bool (ltSs xs ys)))) s) := by
  intro prog w A R s h
  obtain ⟨hp, g, d, tk, os⟩ := s; obtain ⟨hl, hb, xs, ys, q1, q2, h⟩ := h
  have f3 := AutoSeq1.sub_list_list
  wp_walk using wpAny_loadPart' hl, wpAny_loadPart' hb
  refine ⟨plainId_quiet plain_eq_loop _, codeAny_builtin entry_eq_loop ?_⟩
  rw [Around.under_plainId plain_eq_loop _]
  exact lt_loop xs ys 0 q1 q2 (Nat.zero_le _) (Nat.zero_le _) prog w A R _ ⟨hl, hb, h⟩
theorem list_gt : Meets (Builtin.«list.__gt__» ⟨[.ref l, .ref b], []⟩) (fun A R s => s.heap.get? l = some (lobj vs.toArray n) ∧ s.heap.get? b = some (lobj ws.toArray n2) ∧ ∃ xs ys, StrVs vs xs ∧ StrVs ws ys ∧ R (.ok (.ret (.bool (ltSs ys xs)))) s) := by
  intro prog w A R s h
  obtain ⟨hp, g, d, tk, os⟩ := s; obtain ⟨hl, hb, xs, ys, q1, q2, h⟩ := h
  have f3 := AutoSeq1.sub_list_list
  wp_walk using wpAny_loadPart' hl, wpAny_loadPart' hb
  refine ⟨plainId_quiet plain_eq_loop _, codeAny_builtin entry_eq_loop ?_⟩
  rw [Around.under_plainId plain_eq_loop _]
  exact gt_loop xs ys 0 q1 q2 (Nat.zero_le _) (Nat.zero_le _) prog w A R _ ⟨hl, hb, h⟩
theorem rich_lt {prog : Program} {w : World} {A : Around} {E : Value → Shared → Prop} {s : Shared} {Q : Value → Shared → Prop} (hl : s.heap.get? l = some (lobj vs.toArray n)) (hb : s.heap.get? b = some (lobj ws.toArray n2)) {xs ys : List (List Nat)} (q1 : StrVs vs xs) (q2 : StrVs ws ys) (hu : A.units < cLine)
    (h : Q (.bool (ltSs xs ys)) s) : wpAny (model prog w) A (richCompare .Lt (.ref l) (.ref b)) Q E s :=
  richCompare_meets_room (T := "list") ⟨_, hl, rfl⟩ ⟨_, hb, rfl⟩ PySem.F.slot_list_lt PySem.F.entry_list_lt (PySem.F.args_list_lt_2 _ _) list_lt ⟨hl, hb, xs, ys, q1, q2, by simp, h⟩ hu
theorem rich_gt {prog : Program} {w : World} {A : Around} {E : Value → Shared → Prop} {s : Shared} {Q : Value → Shared → Prop} (hl : s.heap.get? l = some (lobj vs.toArray n)) (hb : s.heap.get? b = some (lobj ws.toArray n2)) {xs ys : List (List Nat)} (q1 : StrVs vs xs) (q2 : StrVs ws ys) (hu : A.units < cLine)
    (h : Q (.bool (ltSs ys xs)) s) : wpAny (model prog w) A (richCompare .Gt (.ref l) (.ref b)) Q E s :=
  richCompare_meets_room (T := "list") ⟨_, hl, rfl⟩ ⟨_, hb, rfl⟩ PySem.F.slot_list_gt PySem.F.entry_list_gt (PySem.F.args_list_gt_2 _ _) list_gt ⟨hl, hb, xs, ys, q1, q2, by simp, h⟩ hu
end
end Mine
end MqAx
section MqBx
open PySem PySem.Calls PyProof.Rows PySem.Builtin.Str
namespace Mine
theorem zgh {T : Nat → Addr} {F : Addr → Prop} {h : Heap} {l : List D} {ls : List (List Nat)} {vs : List Value} (e : toStrs l = some ls) (q : RepL T F h vs l) : StrVs vs ls := by
  have e' := zgx e
  subst e'
  clear e
  induction ls generalizing vs with
  | nil => cases q; exact .nil
  | cons x ls ih => cases q with | cons a b => cases a with | str t p z => exact .cons (ih b)
inductive LtInv : D → D → Bool → Prop
  | str (x y : List Nat) : LtInv (.str x) (.str y) (ltL x y)
  | list {la lb : List D} {x y : List (List Nat)} : toStrs la = some x → toStrs lb = some y → LtInv (.list la) (.list lb) (ltSs x y)
theorem zlG {a b : D} {c : Bool} (e : ltD a b = some c) : LtInv a b c := by
  cases a <;> try (cases e; done)
  · cases b <;> try (cases e; done)
    cases e; exact .str _ _
  · cases b <;> try (cases e; done)
    rename_i la lb
    replace e : (match toStrs la, toStrs lb with | some x, some y => some (ltSs x y) | _, _ => none) = some c := e
    cases e1 : toStrs la with
    | none => rw [e1] at e; cases e
    | some x =>
    cases e2 : toStrs lb with
    | none => rw [e1, e2] at e; cases e
    | some y =>
    rw [e1, e2] at e
    cases e
    exact .list e1 e2
inductive BestInv (better : D → D → Option Bool) : List D → R → Prop
  | list {d : D} {r : List D} {res : D} : bestGo better d r = some res → BestInv better [.list (d :: r)] (.val res)
  | tup {d : D} {r : List D} {res : D} : bestGo better d r = some res → BestInv better [.tup (d :: r)] (.val res)
theorem zmY {better : D → D → Option Bool} {ds : List D} {r : R} (e : opBest better ds = some r) : BestInv better ds r := by
  rcases ds with _ | ⟨a, t⟩
  · cases e
  cases a <;> try (cases e; done)
  all_goals
    rcases t with _ | ⟨_, _⟩
    · rename_i l
      rcases l with _ | ⟨d, l⟩
      · cases e
      obtain ⟨res, e1, e2⟩ := Option.map_eq_some_iff.mp (show (bestGo better d l).map R.val = some r from e)
      cases e2
      first | exact .list e1 | exact .tup e1
    · rename_i l _ _
      rcases l with _ | ⟨_, _⟩ <;> cases e
section
variable {cx : XCx} {F : Addr → Prop} {h0 : Heap} {prog : Program} {w : World} {A : Around} {E : Value → Shared → Prop} {s : Shared}
theorem zkB {v u : Value} {a b : D} {c : Bool} (qa : Rep cx.T F h0 v a) (qb : Rep cx.T F h0 u b) (hk : ∀ a o, h0.get? a = some o → s.heap.get? a = some o) (hu : A.units < cLine) (e : ltD a b = some c) {Q : Value → Shared → Prop} (h : Q (.bool c) s) :
    wpAny (model prog w) A (richCompare .Lt v u) Q E s := by
  cases zlG e with
  | str x y => cases qa with | str t p z => cases qb with | str t' p' z' => exact P.lt_str h
  | list e1 e2 => cases qa with | list f g z q => cases qb with | list f' g' z' q' => exact rich_lt (hk _ _ g) (hk _ _ g') (zgh e1 q) (zgh e2 q') hu h
theorem zkC {v u : Value} {a b : D} {c : Bool} (qa : Rep cx.T F h0 v a) (qb : Rep cx.T F h0 u b) (hk : ∀ a o, h0.get? a = some o → s.heap.get? a = some o) (hu : A.units < cLine) (e : gtD a b = some c) {Q : Value → Shared → Prop} (h : Q (.bool c) s) :
    wpAny (model prog w) A (richCompare .Gt v u) Q E s := by
  cases zlG (show ltD b a = some c from e) with
  | str x y => cases qa with | str t p z => cases qb with | str t' p' z' => exact P.gt_str h
  | list e1 e2 => cases qa with | list f g z q => cases qb with | list f' g' z' q' => exact rich_gt (hk _ _ g) (hk _ _ g') (zgh e2 q) (zgh e1 q') hu h
noncomputable def mm1 : {f : String → PySem.Builtin // PySem.Builtin.«min» = f "min" ∧ PySem.Builtin.«max» = f "max"} := ⟨_, rfl, rfl⟩
noncomputable def mmL : {f : String → CmpOp → PySem.Builtin // PySem.Builtin.«min.loop» = f "min" .Lt ∧ PySem.Builtin.«max.loop» = f "max" .Gt} := ⟨_, rfl, rfl⟩
set_option genInjectivity false in
structure MM (nm lp : String) (op : CmpOp) (better : D → D → Option Bool) : Prop where
  hn : (toString nm ++ toString ".loop" : String) = lp
  k : builtinKind nm = none
  p1 : plainId nm = true
  e1 : entryFor table nm = some (mm1.1 nm)
  a1 : ∀ a, argsOk nm ⟨[a], []⟩
  p2 : plainId lp = true
  e2 : entryFor table lp = some (mmL.1 nm op)
  rich : ∀ {cx : XCx} {F : Addr → Prop} {h0 : Heap} {prog : Program} {w : World} {A : Around} {E : Value → Shared → Prop} {s : Shared} {v u : Value} {a b : D} {c : Bool}, Rep cx.T F h0 v a → Rep cx.T F h0 u b → (∀ a o, h0.get? a = some o → s.heap.get? a = some o) → A.units < cLine → better a b = some c → ∀ {Q : Value → Shared → Prop}, Q (.bool c) s →
    wpAny (model prog w) A (richCompare op v u) Q E s
theorem mm_min : MM "min" "min.loop" .Lt ltD := ⟨by decide, PySem.F.kind_min, PySem.F.plain_min, mm1.2.1 ▸ PySem.F.entry_min, PySem.F.args_min1, PySem.F.plain_min_loop, mmL.2.1 ▸ PySem.F.entry_min_loop, zkB⟩
theorem mm_max : MM "max" "max.loop" .Gt gtD := ⟨by decide, PySem.F.kind_max, PySem.F.plain_max, mm1.2.2 ▸ PySem.F.entry_max, PySem.F.args_max1, PySem.F.plain_max_loop, mmL.2.2 ▸ PySem.F.entry_max_loop, zkC⟩
variable {nm lp : String} {op : CmpOp} {better : D → D → Option Bool}
theorem mm_loop (M : MM nm lp op better) {R : Result → Shared → Prop} {I S : Addr} {fp wr : List Addr} {P : Nat → Value → Prop} {St : Nat → Heap → Prop} {items : List D} (W : Walks prog w A.in1 I fp wr items.length P St) (hu : A.units + 1 < cLine) (hSf : S ∉ fp) (hw : ∀ b ∈ S :: wr, h0.get? b = none)
    (item : ∀ i v, P i v → ∃ d, items[i]? = some d ∧ Rep cx.T F h0 v d) {res : D} :
    ∀ (k j : Nat) (s : Shared) (vb : Value) (db : D) (c : Nat), items.length - j = k → j ≤ items.length → St j s.heap → (∀ a o, h0.get? a = some o → s.heap.get? a = some o) → Rep cx.T F h0 vb db → bestGo better db (items.drop j) = some res →
    s.heap.get? S = some { cls := .type "list", dict := none, data := .seq #[vb, vb] c, slots := #[] } →
    (∀ v h' tk, Rep cx.T F h0 v res → (∀ a o, h0.get? a = some o → h'.get? a = some o) → R (.ok (.ret v)) { s with heap := h', toks := tk }) →
    codeAny (model prog w) A (.builtin lp ⟨[.ref I, .none, .ref S], []⟩) R s := by
  have hSw : S ∉ wr := fun h => hSf (W.sub _ h)
  have notw : ∀ a o, h0.get? a = some o → a ∉ wr := fun a o e h => by rw [hw a (List.mem_cons_of_mem _ h)] at e; cases e
  have notS : ∀ a o, h0.get? a = some o → a ≠ S := fun a o e h => by rw [h, hw S List.mem_cons_self] at e; cases e
  intro k
  induction k with
  | zero =>
    intro j s vb db c hk hj hst hkp hvb hg hS hR
    have hin : j = items.length := Nat.le_antisymm hj (Nat.le_of_sub_eq_zero hk)
    subst hin
    rw [List.drop_length] at hg
    cases hg
    refine codeAny_builtin M.e2 ?_
    rw [Around.under_plainId M.p2 _]
    show wpAny _ A.in1 (seqItems? (.ref S) >>= _) _ _ s
    refine wpAny_bind (wpAny_seqItems hS rfl ?_)
    show wpAny _ A.in1 (tryCatch (pyNext (.ref I)) _ >>= _) _ _ s
    refine wpAny_bind (wpAny_tryCatch (W.done s _ _ hst fun h' tk hk' => ?_))
    have hS' := hk' S _ hSw hS
    show wpAny _ A.in1 (updateSeq S (fun _ => #[]) >>= _) _ _ _
    refine wpAny_bind ?_
    refine wpAny_updateSeq hS' rfl (wpAny_bind (wpAny_letGo (wpAny_pure ?_)))
    exact hR vb _ tk hvb fun b o e => (Heap.get?_update_other _ _ (Ne.symm (notS b o e))).trans (hk' b o (notw b o e) (hkp b o e))
  | succ k ih =>
    intro j s vb db c hk hj hst hkp hvb hg hS hR
    have hlt : j < items.length := Nat.lt_of_sub_pos (by rw [hk]; exact Nat.succ_pos _)
    rw [List.drop_eq_getElem_cons hlt] at hg
    refine codeAny_builtin M.e2 ?_
    rw [Around.under_plainId M.p2 _]
    show wpAny _ A.in1 (seqItems? (.ref S) >>= _) _ _ s
    refine wpAny_bind (wpAny_seqItems hS rfl ?_)
    show wpAny _ A.in1 (tryCatch (pyNext (.ref I)) _ >>= _) _ _ s
    refine wpAny_bind (wpAny_tryCatch (W.item j s _ _ hlt hst fun v h' tk hP hst' hk' => ?_))
    have hS' := hk' S _ hSw hS
    obtain ⟨d, hd, hv⟩ := item j v hP
    rw [List.getElem?_eq_getElem hlt] at hd
    cases hd
    unfold bestGo at hg
    have hkp' : ∀ a o, h0.get? a = some o → h'.get? a = some o := fun b o e => hk' b o (notw b o e) (hkp b o e)
    show wpAny _ A.in1 (tryCatch (holding [v, v] (richCompare op v vb >>= _)) _ >>= _) _ _ _
    cases hb : better items[j] db with
    | none => rw [hb] at hg; cases hg
    | some b =>
    rw [hb] at hg
    refine wpAny_bind (wpAny_tryCatch (wpAny_holding (wpAny_bind (M.rich (s := { s with heap := h', toks := tk }) hv hvb hkp' hu hb ?_))))
    refine wpAny_bind (wpAny_holding (wpAny_truthy_bool ?_))
    refine wpAny_bind (wpAny_letGo (wpAny_pure ?_))
    cases b with
    | true =>
      simp only [if_true]
      refine wpAny_bind ?_
      refine wpAny_updateSeq hS' rfl (wpAny_bind (wpAny_letGo ?_))
      rw [M.hn]
      refine wpAny_pure ⟨plainId_quiet M.p2 _, ih (j + 1) _ v _ _ (by rw [Nat.sub_succ, hk]; rfl) hlt (W.frame _ _ _ hst' fun b hbf o e => ?_) (fun b o e => ?_) hv hg (Heap.get?_update_self _ hS' rfl)
        fun v' h'' tk'' hP' hk'' => ?_⟩
      · exact (Heap.get?_update_other _ _ (fun h : S = b => hSf (by rw [h]; exact hbf))).trans e
      · exact (Heap.get?_update_other _ _ (Ne.symm (notS b o e))).trans (hkp' b o e)
      · exact hR v' h'' tk'' hP' hk''
    | false =>
      simp only [Bool.false_eq_true, if_false]
      refine wpAny_bind (wpAny_letGo ?_)
      rw [M.hn]
      exact wpAny_pure ⟨plainId_quiet M.p2 _, ih (j + 1) _ vb db c (by rw [Nat.sub_succ, hk]; rfl) hlt hst' hkp' hvb hg hS' fun v' h'' tk'' hP' hk'' => hR v' h'' tk'' hP' hk''⟩
theorem zk2 (M : MM nm lp op better) {x : Value} {d : D} {r : List D} {res : D} {Q : Value → Shared → Prop} (hu : A.units + 2 < cLine) (hg : bestGo better d r = some res)
    (h : wpAny (model prog w) A.in1 (pyIter x) (fun it s₂ => ∃ I fp wr P St, it = .ref I ∧ Walks prog w A.in1 I fp wr (d :: r).length P St ∧ St 0 s₂.heap ∧ (∀ b ∈ fp, b < s₂.heap.objs.size) ∧ (∀ b ∈ wr, s.heap.get? b = none) ∧ (∀ a o, s.heap.get? a = some o → s₂.heap.get? a = some o) ∧
      (∀ i v, P i v → ∃ d', (d :: r)[i]? = some d' ∧ Rep cx.T F s.heap v d') ∧
      ∀ v h' tk, Rep cx.T F s.heap v res → (∀ b o, s.heap.get? b = some o → h'.get? b = some o) → Q v { s₂ with heap := h', toks := tk }) E s) :
    wpAny (model prog w) A (call (.builtin nm) [x]) Q E s := by
  refine call_function_tree M.k M.p1 M.e1 (M.a1 _) ?_
  show wpAny _ A.in1 (Builtin.Builtins.bindParams nm ["key", "default"] 0 ⟨[], []⟩ >>= _) _ _ s
  refine wpAny_bind (wpAny_of_eq (show Builtin.Builtins.bindParams nm ["key", "default"] 0 ⟨[], []⟩ = pure [none, none] from rfl) ?_)
  refine wpAny_bind (wpAny_pure ?_)
  refine wpAny_bind (wpAny_mono h (fun it s₂ h₂ => ?_) fun _ _ e => e)
  obtain ⟨I, fp, wr, P, St, rfl, W, hst, hfp, hwr, hkp, item, hQ⟩ := h₂
  refine wpAny_bind (wpAny_newObj_type ?_)
  have hSf : s₂.heap.objs.size ∉ fp := fun hm => Nat.lt_irrefl _ (hfp _ hm)
  have hS0 : s.heap.get? s₂.heap.objs.size = none := by
    cases e : s.heap.get? s₂.heap.objs.size with
    | none => rfl
    | some o => exact absurd (Heap.lt_size (hkp _ _ e)) (Nat.lt_irrefl _)
  rw [M.hn]
  refine wpAny_pure ⟨plainId_quiet M.p2 _, ?_⟩
  have hSw : s₂.heap.objs.size ∉ wr := fun h => hSf (W.sub _ h)
  have hst1 := W.frame 0 _ (s₂.heap.push { cls := .type "list", data := .seq #[] 0 }) hst fun b _ o e => Heap.get?_push_of_some _ e
  refine codeAny_builtin M.e2 ?_
  rw [Around.under_plainId M.p2 _]
  show wpAny _ A.in1 (seqItems? (.ref s₂.heap.objs.size) >>= _) _ _ _
  refine wpAny_bind (wpAny_seqItems (Heap.get?_push_size _ rfl) rfl ?_)
  show wpAny _ A.in1 (tryCatch (pyNext (.ref I)) _ >>= _) _ _ _
  refine wpAny_bind (wpAny_tryCatch (W.item 0 _ _ _ (Nat.zero_lt_succ _) hst1 fun v h' tk hP hst' hk' => ?_))
  have hS' := hk' s₂.heap.objs.size _ hSw (Heap.get?_push_size _ rfl)
  obtain ⟨d', hd', hv⟩ := item 0 v hP
  cases hd'
  have notw : ∀ a o, s.heap.get? a = some o → a ∉ wr := fun a o e h => by rw [hwr a h] at e; cases e
  have notS : ∀ a o, s.heap.get? a = some o → a ≠ s₂.heap.objs.size := fun a o e h => by rw [h, hS0] at e; cases e
  show wpAny _ A.in1 (updateSeq s₂.heap.objs.size (fun _ => #[v, v]) >>= _) _ _ _
  refine wpAny_bind ?_
  refine wpAny_updateSeq hS' rfl ?_
  rw [M.hn]
  refine wpAny_pure ⟨plainId_quiet M.p2 _, mm_loop M (A := A) (cx := cx) (F := F) (h0 := s.heap) W (Nat.lt_of_succ_lt hu) hSf (fun b hb => ?_) item (r.length) 1 _ v d _ rfl (Nat.succ_le_succ (Nat.zero_le _)) (W.frame _ _ _ hst' fun b hbf o e => ?_) (fun b o e => ?_) hv (show bestGo better d ((d :: r).drop 1) = some res from hg) (Heap.get?_update_self _ hS' rfl) fun v' h'' tk'' hP' hk'' => ?_⟩
  · rcases List.mem_cons.mp hb with rfl | hb
    · exact hS0
    · exact hwr b hb
  · exact (Heap.get?_update_other _ _ (fun h : s₂.heap.objs.size = b => hSf (by rw [h]; exact hbf))).trans e
  · exact (Heap.get?_update_other _ _ (Ne.symm (notS b o e))).trans (hk' b o (notw b o e) (Heap.get?_push_of_some _ (hkp b o e)))
  · exact hQ v' h'' tk'' hP' hk''
end
section
variable {cx : XCx} {nm lp : String} {op : CmpOp} {better : D → D → Option Bool}
theorem zi2 {x : Value} {a : Addr} {vs : List Value} {d : D} {r : List D} {res : D} (M : MM nm lp op better) {n : Nat} {Q : Value → Shared → Prop} {E : Value → Shared → Prop} {s : Shared} {F : Addr → Prop} {A : Around} {ok : CxOk cx} (bud : BudE n A) (w : Wd cx F s) {o o' : Obj} (g : s.heap.get? a = some o') (ql : RepL cx.T F s.heap vs (d :: r)) (e1 : bestGo better d r = some res) {St : Nat → Heap → Prop}
    (W : Walks cx.prog cx.w A.in1 s.heap.objs.size [s.heap.objs.size, a] [s.heap.objs.size] vs.toArray.size (fun i v => vs.toArray[i]? = some v) St) (st0 : St 0 (s.heap.push o))
    (it : ∀ {P : Value → Shared → Prop}, P (.ref s.heap.objs.size) { s with heap := s.heap.push o } → wpAny (model cx.prog cx.w) A.in1 (pyIter x) P E s) (hQ : Post cx F s (.val res) Q) : wpAny (model cx.prog cx.w) A (call (.builtin nm) [x]) Q E s := by
  have el : (d :: r).length = vs.toArray.size := by rw [List.size_toArray]; exact ql.length.symm
  refine zk2 (cx := cx) (F := F) M (by have := bud.un; show A.units + 2 < 9900; omega) e1 (it ?_)
  refine ⟨s.heap.objs.size, [s.heap.objs.size, a], [s.heap.objs.size], fun i v => vs.toArray[i]? = some v, St, rfl, el ▸ W, st0, ?_, ?_, fun _ _ e => Heap.get?_push_of_some _ e, fun i v hv => ?_, fun v h' tk hv hk => ?_⟩
  · intro b hb
    rw [Heap.size_push]
    rcases List.mem_cons.mp hb with rfl | hb
    · exact Nat.lt_succ_self _
    · cases List.mem_singleton.mp hb
      exact Nat.lt_succ_of_lt (Heap.lt_size g)
  · intro b hb
    cases List.mem_singleton.mp hb
    exact zbt _
  · replace hv : vs.toArray[i]? = some v := hv
    rw [List.getElem?_toArray] at hv
    exact ql.getV hv
  · exact hQ v F _ (Step.grown ok w tk hk) (.val (hv.mono (fun _ h => h) fun _ _ _ e => hk _ _ e))
theorem zlz {n : Nat} {A : Around} {F : Addr → Prop} {s : Shared} {vs : List Value} {ds : List D} {r : R} (M : MM nm lp op better) (ok : CxOk cx) (bud : BudE n A) (w : Wd cx F s) (q : BRepL cx F s.heap vs ds) (he : opBest better ds = some r) : Ev cx A F s (call (.builtin nm) vs) r := by
  intro Q E hQ
  cases zmY he with
  | @list d r' res e1 =>
    obtain ⟨x, rfl, qa⟩ := q.one
    obtain ⟨a, vs, k, rfl, nx, g, z, ql⟩ := qa.list_inv w
    exact zi2 (ok := ok) M bud w g ql e1 (Walks.list (A := A.in1) bud.hd _ a (Nat.ne_of_lt (Heap.lt_size g)) vs.toArray) ⟨⟨_, Heap.get?_push_size _ rfl, rfl, rfl⟩, zbn (Heap.get?_push_of_some _ g)⟩ (fun h => wpAny_pyIter_list (zbn g) h) hQ
  | @tup d r' res e1 =>
    obtain ⟨x, rfl, qa⟩ := q.one
    obtain ⟨a, vs, k, rfl, f, g, z, ql⟩ := qa.tup_inv
    have ht : s.heap.IsTuple a vs.toArray := ⟨_, g, rfl, k, rfl⟩
    exact zi2 (ok := ok) M bud w g ql e1 (Walks.tuple (A := A.in1) bud.hd _ a (Nat.ne_of_lt (Heap.lt_size g)) vs.toArray) ⟨⟨_, Heap.get?_push_size _ rfl, rfl, rfl⟩, ht.push _⟩ (fun h => wpAny_pyIter_tuple ht h) hQ
theorem op_min : OpOK cx .min (fun vs => call (.builtin "min") vs) := by
  intro n A F s vs ds r ok bud w q he
  exact zlz mm_min ok bud w q he
inductive MaxInv : List D → R → Prop
  | two (a b : Int) : MaxInv [.int a, .int b] (.val (.int (if b > a then b else a)))
  | best {ds : List D} {r : R} : opBest gtD ds = some r → MaxInv ds r
theorem max_inv {ds : List D} {r : R} (he : opMax ds = some r) : MaxInv ds r := by
  rcases ds with _ | ⟨a0, t0⟩
  · cases he
  cases a0 with
  | int a =>
    rcases t0 with _ | ⟨a1, t1⟩
    · cases he
    cases a1 with
    | int b => rcases t1 with _ | ⟨_, _⟩ <;> cases he; exact .two a b
    | _ => exact .best he
  | _ => exact .best he
theorem op_max : OpOK cx .max (fun vs => call (.builtin "max") vs) := by
  intro n A F s vs ds r ok bud w q he
  cases max_inv (show opMax ds = some r from he) with
  | two a b =>
    intro Q E hQ
    obtain ⟨x, y, rfl, qa, qb⟩ := q.two
    obtain ⟨t, rfl⟩ := qa.int_inv
    obtain ⟨u, rfl⟩ := qb.int_inv
    refine max_two_ints bud.hd fun h' tk hk => hQ _ F _ (Step.grown ok w tk hk) ?_
    by_cases h : b > a
    · rw [if_pos h, if_pos h]; exact .val (.int _ _)
    · rw [if_neg h, if_neg h]; exact .val (.int _ _)
  | best e => exact zlz mm_max ok bud w q e
end
end Mine
end MqBx
section MqCx
open PySem PySem.Calls PyProof.Rows PySem.Builtin.Str
namespace Mine
set_option genInjectivity false in
structure IterE (cx : XCx) (A : Around) (F₀ : Addr → Prop) (s₀ : Shared) (items : List D) (e it : Addr) (F : Addr → Prop) (s : Shared) (fp : List Addr) (P : Nat → Value → Prop) (St : Nat → Heap → Prop) : Prop where
  st : Step cx F₀ s₀ F s
  W : ∀ A' : Around, A'.handled = none → Draws cx.prog cx.w A' it fp items.length P St
  s0 : St 0 s.heap
  he : IsEnum s.heap e it 0 .none
  ne : e ≠ it
  nef : e ∉ fp
  newe : s₀.heap.get? e = none ∧ ¬ F e
  newi : s₀.heap.get? it = none ∧ ¬ F it
  deps : ∀ b ∈ fp, b = it ∨ F b
  item : ∀ i v, P i v → ∃ d, items[i]? = some d ∧ Rep cx.T F s.heap v d
  live : ∀ i h, St i h → ∃ o, h.get? it = some o
  lim : items.length ≤ lim
section
variable {cx : XCx} {ε : Sc}
theorem ziU : ∀ {l : List D} {j : Nat} {k : Int} {d : D}, l[j]? = some d → (enumL k l)[j]? = some (.tup [.int (k + j), d])
  | [], j, k, d, h => by cases h
  | a :: l, 0, k, d, h => by
    cases h
    show some (D.tup [.int k, a]) = _
    simp
  | a :: l, j + 1, k, d, h => by
    show (enumL (k + 1) l)[j]? = _
    rw [ziU (l := l) (by simpa using h), show k + 1 + (j : Int) = k + ((j + 1 : Nat) : Int) by push_cast; omega]
theorem zec : ∀ {l : List D} {k : Int}, (enumL k l).length = l.length
  | [], _ => rfl
  | a :: l, k => by show (enumL (k + 1) l).length + 1 = _; rw [zec]; rfl
noncomputable def PairR (cx : XCx) (F : Addr → Prop) (h : Heap) (v : Value) (d : D) : Prop := ∃ (a : Addr) (vs : List Value) (ds : List D), v = .ref a ∧ h.IsTuple a vs.toArray ∧ d = .tup ds ∧ RepL cx.T F h vs ds
theorem IterE.gen {A : Around} (hh : A.handled = none) {elts : List Expr} {kt : Nat} {pt : Pos} {F₀ F : Addr → Prop} {s₀ s : Shared} {items : List D} {e it : Addr} {fp : List Addr} {P : Nat → Value → Prop} {St : Nat → Heap → Prop} (J : IterE cx A F₀ s₀ items e it F s fp P St) :
    IterG cx A (.Tuple elts kt pt) F₀ s₀ (enumL 0 items) e F s [e, it] (fun j h => (∃ old, IsEnum h e it (j : Int) old) ∧ St j h) (PairR cx) := by
  have mem : ∀ b, b ∈ [e, it] → b = e ∨ b = it := fun b hb => by simpa using hb
  have out : ∀ b, b ∉ [e, it] → b ≠ e ∧ b ≠ it := fun b hb => by simpa using hb
  refine ⟨J.st, ⟨⟨_, J.he⟩, J.s0⟩, fun b hb => ?_, fun j h hs b hb => ?_, fun j h h' hs hk => ?_, fun j s' F' K N E hlt hst hrep hnw hQ => ?_, fun s' K N E hst hQ => ?_⟩
  · rcases mem b hb with rfl | rfl
    · exact J.newe
    · exact J.newi
  · rcases mem b hb with rfl | rfl
    · obtain ⟨_, g⟩ := hs.1; exact ⟨_, g⟩
    · exact J.live _ _ hs.2
  · obtain ⟨⟨old, g⟩, hs⟩ := hs
    exact ⟨⟨old, hk e (.inl (by simp)) _ g⟩, (J.W A hh).frame _ _ _ hs fun b hb => hk b ((J.deps b hb).imp (fun q => by simp [q]) id)⟩
  · rw [zec] at hlt
    obtain ⟨⟨old, g⟩, hst⟩ := hst
    refine wpAny_pyNext_enum_itemD (J.W A.in1 hh) g hst hlt J.ne J.nef fun v h' tk hP hout hst' hT hsz hk => ?_
    refine wpAny_letOwnedTupleGo_enum (s := { s' with heap := h', toks := tk + 1 }) hout fun h2 hen2 hs2 => ?_
    have hk2 : ∀ b o, b ∉ [e, it] → s'.heap.get? b = some o → h2.get? b = some o := fun b o hb q => hs2.extBut b o (out b hb).1 (hk b o (out b hb).1 (out b hb).2 q)
    obtain ⟨d, hd, hr⟩ := J.item j v hP
    have hTne : s'.heap.objs.size ≠ e := fun q => by have := Heap.lt_size g; rw [q] at this; exact Nat.lt_irrefl _ this
    have hT2 : h2.get? s'.heap.objs.size = some { cls := .type "tuple", data := .seq #[.int (j : Int) tk, v] } := hs2.extBut _ _ hTne hT
    have hr2 : Rep cx.T F' h2 v d := (hrep v d hr).mono (fun _ h => h) fun a o f q => hk2 a o (fun hm => hnw a hm f) q
    have ec : (((j + 1 : Nat) : Int)) = (j : Int) + 1 := by push_cast; rfl
    refine hQ _ h2 (tk + 1) _ (ziU hd) ⟨_, [.int (j : Int) tk, v], [.int (0 + (j : Int)), d], rfl, ⟨_, hT2, rfl, _, rfl⟩, rfl, ?_⟩ ⟨⟨v, ec ▸ hen2⟩, (J.W A hh).frame _ _ _ hst' fun b hb o q => hs2.extBut b o (fun q => J.nef (q ▸ hb)) q⟩ hk2
    rw [Int.zero_add]
    exact .cons (.int _ _) (.cons hr2 .nil)
  · rw [zec] at hst
    obtain ⟨⟨old, g⟩, hst⟩ := hst
    exact wpAny_pyNext_enum_endD (J.W A.in1 hh) g hst fun h' hk => hQ h' s'.toks fun b o hb q => hk b o (out b hb).2 q
end
end Mine
end MqCx
section MqDx
open PySem PySem.Calls PyProof.Rows PySem.Builtin.Str
namespace Mine
section
variable {cx : XCx} {ε : Sc}
theorem zmW {A : Around} (hh : A.handled = none) {F₀ F : Addr → Prop} {s₀ s : Shared} (ok : CxOk cx) (w₀ : Wd cx F₀ s₀) (st : Step cx F₀ s₀ F s) {v : Value} {d : D} (q : Rep cx.T F s.heap v d) {items : List D} (hi : enumOf d = some items)
    {Q : Value → Shared → Prop} {E : Value → Shared → Prop} (hQ : ∀ e i F' s' fp P St, IterE cx A F₀ s₀ items e i F' s' fp P St → Q (.ref e) s') : wpAny (model cx.prog cx.w) A (call (.type "enumerate") [v]) (fun v s₁ => wpAny (model cx.prog cx.w) A (pyIter v) Q E s₁) E s := by
  have fr := zbt s.heap
  have fr2 : s.heap.get? (s.heap.objs.size + 1) = none := Heap.get?_none_of_le (Nat.le_succ _)
  have n1 : s₀.heap.get? s.heap.objs.size = none ∧ ¬ F s.heap.objs.size := ⟨st.fresh (st.wd.newNotX fr) fr, st.wd.newNotF fr⟩
  have n2 : s₀.heap.get? (s.heap.objs.size + 1) = none ∧ ¬ F (s.heap.objs.size + 1) := ⟨st.fresh (st.wd.newNotX fr2) fr2, st.wd.newNotF fr2⟩
  cases q with
  | @list a vs n l f g z q =>
    cases hi
    have hlt := Heap.lt_size g
    have hne : a ≠ s.heap.objs.size := Nat.ne_of_lt hlt
    have el : items.length = vs.toArray.size := by rw [List.size_toArray]; exact q.length.symm
    refine call_enumerate_list (zbn g) fun h' he hit hsz keep => ?_
    have stp := Step.grown ok st.wd s.toks keep
    refine wpAny_pyIter_enum he (hQ _ s.heap.objs.size F _ [s.heap.objs.size, a] (fun i v => vs.toArray[i]? = some v) (fun i h => h.IsListIter s.heap.objs.size a i ∧ h.IsList a vs.toArray) ?_)
    refine ⟨st.trans stp, fun A' hh => el ▸ Draws.list hh _ a hne vs.toArray, ⟨hit, zbn (keep _ _ g)⟩, he, Nat.succ_ne_self _, ?_, n2, n1, fun b hb => ?_, fun i v h => ?_, fun i h hs => ?_, by rw [← q.length]; exact z⟩
    · simp only [List.mem_cons, List.not_mem_nil, or_false, not_or]
      exact ⟨Nat.succ_ne_self _, fun e => Nat.lt_irrefl _ (Nat.lt_of_succ_lt (e.symm ▸ hlt : s.heap.objs.size + 1 < s.heap.objs.size))⟩
    · simp only [List.mem_cons, List.not_mem_nil, or_false] at hb
      rcases hb with rfl | rfl
      · exact .inl rfl
      · exact .inr f
    · replace h : vs.toArray[i]? = some v := h
      rw [List.getElem?_toArray] at h
      obtain ⟨d, e, r⟩ := q.getV h
      exact ⟨d, e, stp.rep st.wd r⟩
    · obtain ⟨⟨o, g, _⟩, _⟩ := hs
      exact ⟨o, g⟩
  | @str l t p z =>
    cases hi
    have el : (l.map fun c => D.str [c]).length = (PySem.Str.mk l.toArray).cps.size := by simp
    refine call_enumerate_str fun h' he hit hsz keep => ?_
    have stp := Step.grown ok st.wd s.toks keep
    have item : ∀ (i : Nat) (v : Value), (∃ c u, (PySem.Str.mk l.toArray).cps[i]? = some c ∧ v = Value.str ⟨#[c]⟩ u) → ∃ d, (l.map fun c => D.str [c])[i]? = some d ∧ Rep cx.T F h' v d := by
      rintro i v ⟨c, u, e, rfl⟩
      rw [show (PySem.Str.mk l.toArray).cps = l.toArray from rfl, List.getElem?_toArray] at e
      refine ⟨.str [c], by rw [List.getElem?_map, e]; rfl, .str (l := [c]) u (fun c' h => ?_) (by simp [lim])⟩
      rw [List.mem_singleton.mp h]
      exact p _ (List.mem_of_getElem? e)
    have hz : (l.map fun c => D.str [c]).length ≤ lim := by simpa using z
    have nef : s.heap.objs.size + 1 ∉ [s.heap.objs.size] := fun h => Nat.succ_ne_self _ (List.mem_singleton.mp h)
    have deps : ∀ b ∈ [s.heap.objs.size], b = s.heap.objs.size ∨ F b := fun b hb => .inl (List.mem_singleton.mp hb)
    refine wpAny_pyIter_enum he ?_
    cases ha : (PySem.Str.mk l.toArray).cps.all (· < 128)
    · have hit' : h'.IsStrIter s.heap.objs.size "str_iterator" ⟨l.toArray⟩ t 0 := by unfold strIterType at hit; rw [ha] at hit; exact hit
      exact hQ _ s.heap.objs.size F _ _ _ _ ⟨st.trans stp, fun A' hh => el ▸ Draws.strWide hh _ ⟨l.toArray⟩ t, hit', he, Nat.succ_ne_self _, nef, n2, n1, deps, item, fun i h hs => let ⟨o, g, _⟩ := hs; ⟨o, g⟩, hz⟩
    · have hit' : h'.IsStrIter s.heap.objs.size "str_ascii_iterator" ⟨l.toArray⟩ t 0 := by unfold strIterType at hit; rw [ha] at hit; exact hit
      exact hQ _ s.heap.objs.size F _ _ _ _ ⟨st.trans stp, fun A' hh => el ▸ Draws.strAscii hh _ ⟨l.toArray⟩ t, hit', he, Nat.succ_ne_self _, nef, n2, n1, deps, item, fun i h hs => let ⟨o, g, _⟩ := hs; ⟨o, g⟩, hz⟩
  | _ => cases hi
theorem zmV {cf : Nat → List D → Option D} {x : X} {ρ : List Slot} {its : List D} (h : evI cf (.enumI x) ρ = some its) : ∃ r d items, ev cf x ρ = some [r] ∧ r.fz = some d ∧ enumOf d = some items ∧ its = enumL 0 items := by
  unfold evI at h
  split at h
  · rename_i l e
    cases h
    replace e := (zaO _).symm.trans e
    split at e
    · rename_i r e1
      split at e
      · rename_i d e2
        obtain ⟨l', e3, e4⟩ := Option.map_eq_some_iff.mp e
        cases e4
        exact ⟨r, d, l', e1, e2, e3, rfl⟩
      · cases e
    · cases e
  · cases h
theorem zg9 {x y : Str} {i j : Nat} {p p' pt pe pc pos : Pos} {k : Nat} {e : Expr} {z : X} {bs : List Stmt} {b : S} (hk : ε.kinds.lookup ("enumerate" : Str) = some .globalImplicit) (hg : cx.mg ("enumerate" : Str) = none)
    (hx : ε.vars.lookup x = some i) (hy : ε.vars.lookup y = some j) (hfx : ε.kinds.lookup x ≠ some .free) (hfy : ε.kinds.lookup y ≠ some .free) (hi : Sound cx ε e z) (hst : starred e = false) (hb : SoundSs cx ε bs b)
    (hs : ∀ env x, foldedSetIterable (.Call (.Name "enumerate" pe) [e] [] pc) env x = pure x) : SoundS cx ε (.For (.Tuple [.Name x p, .Name y p'] k pt) (.Call (.Name "enumerate" pe) [e] [] pc) bs [] pos) (.forE2 i j (.enumI z) b) := by
  intro n cf A env F s ρ ad m cm H ρ' o h Q E hQ
  replace h := (zgX cf).symm.trans h
  split at h
  · rename_i its ei
    obtain ⟨r, d, items, e1, e2, e3, rfl⟩ := zmV ei
    refine zlZ (TR := PairR cx) hb hs H (fun F s ρ m cm ad H' v d ρ' hv hp Q' E' hQ' => ?_) (fun Q' E' hQ' => ?_) h hQ
    · obtain ⟨a, vs, ds, rfl, ht, rfl, q⟩ := hv
      unfold put2 at hp
      split at hp <;> cases hp
      rename_i q0
      cases q0
      exact ziv H' ht q (is := [i, j]) rfl rfl rfl (.cons hx hfx zcB (.cons hy hfy zcB .nil)) hQ'
    rw [zbo (by intro _ _ _ e; cases e)]
    refine wpAny_bind (zct H.here hk hg (by decide) (v := .type "enumerate") (by kernel_rfl) (by decide) ?_)
    have hL : SoundL cx ε [e] (.cons z .nil) false := .cons hi hst .nil
    refine PyProof.Rows.callWith_type (zbP hL) (zb2 hL H.here (zki e1) fun vs F' s' st q => ?_)
    obtain ⟨v, rfl, q0⟩ : ∃ v, vs = [v] ∧ RepR cx F' s.heap s'.heap v r := by
      cases q with | cons a b => cases b; exact ⟨_, rfl, a⟩
    obtain ⟨F'', st', _, q'⟩ := st.fz H.ok H.wd q0 e2
    exact zmW H.bud.hd H.ok H.wd st' q' e3 fun e0 i0 F3 s3 fp P St J => hQ' e0 F3 s3 _ _ (J.gen H.bud.hd)
  · cases h
end
end Mine
end MqDx
section MqEx
open PySem PySem.Calls PyProof.Rows PySem.Builtin.Str
namespace Mine
section
variable {cx : XCx} {ε : Sc}
theorem zgF {elt iter tg : Expr} {ifs : List Expr} {scope : Scope} {pos spos py : Pos} {x x' y : Str} {i i' j : Nat} {it c e : X} (h : CompX cx ε elt iter tg ifs scope [x, x'] [i, i'] two2 it c e)
    (hy : ε.vars.lookup y = some j) (hf : ε.kinds.lookup y ≠ some .free) (hs : ∀ env : Env, env.scope.kind = .function → env.scope.names = ε.kinds → swapsWith (.ListComp elt [⟨tg, iter, ifs, 0⟩] scope pos) (some (.Name y py)) spos.line env = pure true) :
    SoundS cx ε (.Assign [.Name y py] (.ListComp elt [⟨tg, iter, ifs, 0⟩] scope pos) spos) (.assign j (.comp2 i i' it c e)) := by
  intro n cf A env F s ρ ad m cm H ρ' o he Q E hQ
  replace he := (zej cf).symm.trans he
  obtain ⟨d, hd, e'⟩ := Option.map_eq_some_iff.mp he
  cases e'
  obtain ⟨l, rfl, items, e1, e2⟩ := zl7 (P := fun l => ∃ items, evI cf it ρ = some items ∧ compGo (turnC cf [i, i'] two2 c e ρ) items = some l) hd fun r hr => by
    obtain ⟨items, l, e1, e2, e3⟩ := zkj hr
    exact ⟨l, e3, items, e1, e2⟩
  exact ziW h hy hf hs H e1 e2 false (fun e => nomatch e) (by rw [if_neg (by decide)]; exact hQ)
end
end Mine
end MqEx
section MqFx
open PySem PySem.Calls PyProof.Rows PySem.Builtin.Str PySem.SeqAt PySem.AutoSeq1 PySem.MeetsSeq PySem.MeetsSeq2 PySem.MeetsSeq3 PySem.SeqRoads2
namespace Mine
section
variable {cx : XCx} {ε : Sc}
end
end Mine
end MqFx
section Dsx
open PySem
namespace Mine
noncomputable def s_escape : S := (.seq (.ite (.op .isInst (.cons (.var 0) (.cons (.const (.ty "str")) .nil))) (.seq (.ret (.op .translate (.cons (.var 0) .nil))) .skip) dead) .skip)
noncomputable def fn_escape : Fn := { np := 1, va := false, ns := 1, body := s_escape }
noncomputable def s_fspath : S := (.seq (.assign 1 (.op .tyOf (.cons (.var 0) .nil))) (.seq (.ite (.op .isSub (.cons (.var 1) (.cons (.tup (.cons (.const (.ty "str")) (.cons (.const (.ty "bytes")) .nil))) .nil))) (.seq (.ret (.var 0)) .skip) .skip) dead))
noncomputable def fn_fspath : Fn := { np := 1, va := false, ns := 4, body := s_fspath }
noncomputable def s_get_sep : S := (.seq (.ite (.op .isInst (.cons (.var 0) (.cons (.const (.ty "bytes")) .nil))) dead (.seq (.ret (.const (.str [47]))) .skip)) .skip)
noncomputable def fn_get_sep : Fn := { np := 1, va := false, ns := 1, body := s_get_sep }
noncomputable def s_join : S := (.seq (.assign 0 (.call 2 (.cons (.var 0) .nil))) (.seq (.assign 2 (.call 3 (.cons (.var 0) .nil))) (.seq (.assign 3 (.var 0)) (.seq (.try_ (.seq (.forE 4 (.seqI (.var 1)) (.seq (.assign 4 (.call 2 (.cons (.var 4) .nil))) (.seq (.ite (.or (.op .startswith (.cons (.var 4) (.cons (.var 2) .nil))) (.not (.var 3))) (.seq (.assign 3 (.var 4)) .skip) (.seq (.ite (.op .endswith (.cons (.var 3) (.cons (.var 2) .nil))) (.seq (.aug 3 (.var 4)) .skip) (.seq (.aug 3 (.op .add (.cons (.var 2) (.cons (.var 4) .nil)))) .skip)) .skip)) .skip))) .skip)) (.seq (.ret (.var 3)) .skip)))))
noncomputable def fn_join : Fn := { np := 1, va := true, ns := 5, body := s_join }
noncomputable def s_law_one : S := (.seq (.ite (.or (.op .eq (.cons (.var 0) (.cons (.const (.str [46])) .nil))) (.op .eq (.cons (.var 0) (.cons (.const (.str [40, 63, 33, 41])) .nil)))) (.seq (.ret (.op .eq (.cons (.var 0) (.cons (.const (.str [46])) .nil)))) .skip) .skip) (.seq (.ite (.op .ne (.cons (.op .index (.cons (.var 0) (.cons (.const (.int 0)) .nil))) (.cons (.const (.str [91])) .nil))) (.seq (.ret (.op .eq (.cons (.op .index (.cons (.var 0) (.cons (.op .neg (.cons (.const (.int 1)) .nil)) .nil))) (.cons (.var 1) .nil)))) .skip) .skip) (.seq (.assign 2 (.op .slice (.cons (.var 0) (.cons (.const (.int 1)) (.cons (.op .neg (.cons (.const (.int 1)) .nil)) .nil))))) (.seq (.assign 3 (.op .eq (.cons (.op .index (.cons (.var 2) (.cons (.const (.int 0)) .nil))) (.cons (.const (.str [94])) .nil)))) (.seq (.assign 4 (.ite (.var 3) (.const (.int 1)) (.const (.int 0)))) (.seq (.assign 5 (.const (.bool false))) (.seq (.while (.op .lt (.cons (.var 4) (.cons (.op .len (.cons (.var 2) .nil)) .nil))) (.seq (.ite (.op .eq (.cons (.op .index (.cons (.var 2) (.cons (.var 4) .nil))) (.cons (.const (.str [92])) .nil))) (.seq (.assign 4 (.op .add (.cons (.var 4) (.cons (.const (.int 1)) .nil)))) .skip) .skip) (.seq (.assign 6 (.op .index (.cons (.var 2) (.cons (.var 4) .nil)))) (.seq (.assign 7 (.var 6)) (.seq (.assign 4 (.op .add (.cons (.var 4) (.cons (.const (.int 1)) .nil)))) (.seq (.ite (.and (.op .lt (.cons (.op .add (.cons (.var 4) (.cons (.const (.int 1)) .nil))) (.cons (.op .len (.cons (.var 2) .nil)) .nil))) (.op .eq (.cons (.op .index (.cons (.var 2) (.cons (.var 4) .nil))) (.cons (.const (.str [45])) .nil)))) (.seq (.assign 4 (.op .add (.cons (.var 4) (.cons (.const (.int 1)) .nil)))) (.seq (.ite (.op .eq (.cons (.op .index (.cons (.var 2) (.cons (.var 4) .nil))) (.cons (.const (.str [92])) .nil))) (.seq (.assign 4 (.op .add (.cons (.var 4) (.cons (.const (.int 1)) .nil)))) .skip) .skip) (.seq (.assign 7 (.op .index (.cons (.var 2) (.cons (.var 4) .nil)))) (.seq (.assign 4 (.op .add (.cons (.var 4) (.cons (.const (.int 1)) .nil)))) .skip)))) .skip) (.seq (.ite (.and (.op .le (.cons (.var 6) (.cons (.var 1) .nil))) (.op .le (.cons (.var 1) (.cons (.var 7) .nil)))) (.seq (.assign 5 (.const (.bool true))) .skip) .skip) .skip))))))) (.seq (.ret (.op .ne (.cons (.var 5) (.cons (.var 3) .nil)))) .skip))))))))
noncomputable def fn_law_one : Fn := { np := 2, va := false, ns := 8, body := s_law_one }
noncomputable def s_law_takes : S := (.seq (.assign 3 (.list (.cons (.const (.int 0)) .nil))) (.seq (.forE 4 (.seqI (.var 0)) (.seq (.ite (.op .is_ (.cons (.var 4) (.cons (.var 1) .nil))) (.seq (.assign 3 (.ite (.var 3) (.op .listOf (.cons (.rangeI (.cons (.op .index (.cons (.var 3) (.cons (.const (.int 0)) .nil))) (.cons (.op .add (.cons (.op .len (.cons (.var 2) .nil)) (.cons (.const (.int 1)) .nil))) .nil))) .nil)) (.list .nil))) .skip) (.seq (.assign 3 (.comp 5 (.seqI (.var 3)) (.and (.op .lt (.cons (.var 5) (.cons (.op .len (.cons (.var 2) .nil)) .nil))) (.call 14 (.cons (.var 4) (.cons (.op .index (.cons (.var 2) (.cons (.var 5) .nil))) .nil)))) (.op .add (.cons (.var 5) (.cons (.const (.int 1)) .nil))))) .skip)) .skip)) (.seq (.ret (.op .in_ (.cons (.op .len (.cons (.var 2) .nil)) (.cons (.var 3) .nil)))) .skip)))
noncomputable def fn_law_takes : Fn := { np := 3, va := false, ns := 6, body := s_law_takes }
noncomputable def s_dirname : S := (.seq (.assign 0 (.call 2 (.cons (.var 0) .nil))) (.seq (.assign 1 (.call 3 (.cons (.var 0) .nil))) (.seq (.assign 2 (.op .add (.cons (.op .rfind (.cons (.var 0) (.cons (.var 1) .nil))) (.cons (.const (.int 1)) .nil)))) (.seq (.assign 3 (.op .slice (.cons (.var 0) (.cons (.const .none) (.cons (.var 2) .nil))))) (.seq (.ite (.and (.var 3) (.op .ne (.cons (.var 3) (.cons (.op .mul (.cons (.var 1) (.cons (.op .len (.cons (.var 3) .nil)) .nil))) .nil)))) (.seq (.assign 3 (.op .rstrip (.cons (.var 3) (.cons (.var 1) .nil)))) .skip) .skip) (.seq (.ret (.var 3)) .skip))))))
noncomputable def fn_dirname : Fn := { np := 1, va := false, ns := 4, body := s_dirname }
noncomputable def s_law_dressed : S := (.seq (.assign 1 (.tup (.cons (.tup (.cons (.const (.str [42])) (.cons (.list (.cons (.const .none) .nil)) .nil))) (.cons (.tup (.cons (.const (.str [97])) (.cons (.list (.cons (.const (.str [97])) .nil)) .nil))) (.cons (.tup (.cons (.const (.str [97, 42])) (.cons (.list (.cons (.const (.str [97])) (.cons (.const .none) .nil))) .nil))) (.cons (.tup (.cons (.const (.str [63])) (.cons (.list (.cons (.const (.str [46, 97, 98])) .nil)) .nil))) (.cons (.tup (.cons (.const (.str [91, 33, 97, 93, 42])) (.cons (.list (.cons (.const (.str [46, 98])) (.cons (.const .none) .nil))) .nil))) (.cons (.tup (.cons (.const (.str [42, 98])) (.cons (.list (.cons (.const .none) (.cons (.const (.str [98])) .nil))) .nil))) (.cons (.tup (.cons (.const (.str [91, 46, 45, 97, 93, 63])) (.cons (.list (.cons (.const (.str [46, 97])) (.cons (.const (.str [46, 97, 98])) .nil))) .nil))) (.cons (.tup (.cons (.const (.str [46, 42])) (.cons (.list (.cons (.const (.str [46])) (.cons (.const .none) .nil))) .nil))) (.cons (.tup (.cons (.const (.str [91, 98, 45, 97, 93])) (.cons (.list (.cons (.const (.str [])) .nil)) .nil))) (.cons (.tup (.cons (.const (.str [91, 33, 98, 45, 97, 93, 98])) (.cons (.list (.cons (.const (.str [46, 97, 98])) (.cons (.const (.str [98])) .nil))) .nil))) (.cons (.tup (.cons (.const (.str [98])) (.cons (.list (.cons (.const (.str [98])) .nil)) .nil))) (.cons (.tup (.cons (.const (.str [42, 91, 97, 98, 93])) (.cons (.list (.cons (.const .none) (.cons (.const (.str [97, 98])) .nil))) .nil))) (.cons (.tup (.cons (.const (.str [97, 63, 98])) (.cons (.list (.cons (.const (.str [97])) (.cons (.const (.str [46, 97, 98])) (.cons (.const (.str [98])) .nil)))) .nil))) .nil))))))))))))))) (.seq (.ret (.op .index (.cons (.var 1) (.cons (.op .mod (.cons (.var 0) (.cons (.const (.int 13)) .nil))) .nil)))) .skip))
noncomputable def fn_law_dressed : Fn := { np := 1, va := false, ns := 2, body := s_law_dressed }
noncomputable def s_splitroot : S := (.seq (.assign 0 (.call 2 (.cons (.var 0) .nil))) (.seq (.ite (.op .isInst (.cons (.var 0) (.cons (.const (.ty "bytes")) .nil))) dead (.seq (.assign 1 (.const (.str [47]))) (.seq (.assign 2 (.const (.str []))) .skip))) (.seq (.ite (.op .ne (.cons (.op .slice (.cons (.var 0) (.cons (.const .none) (.cons (.const (.int 1)) .nil)))) (.cons (.var 1) .nil))) (.seq (.ret (.tup (.cons (.var 2) (.cons (.var 2) (.cons (.var 0) .nil))))) .skip) (.seq (.ite (.or (.op .ne (.cons (.op .slice (.cons (.var 0) (.cons (.const (.int 1)) (.cons (.const (.int 2)) .nil)))) (.cons (.var 1) .nil))) (.op .eq (.cons (.op .slice (.cons (.var 0) (.cons (.const (.int 2)) (.cons (.const (.int 3)) .nil)))) (.cons (.var 1) .nil)))) (.seq (.ret (.tup (.cons (.var 2) (.cons (.var 1) (.cons (.op .slice (.cons (.var 0) (.cons (.const (.int 1)) (.cons (.const .none) .nil)))) .nil))))) .skip) (.seq (.ret (.tup (.cons (.var 2) (.cons (.op .slice (.cons (.var 0) (.cons (.const .none) (.cons (.const (.int 2)) .nil)))) (.cons (.op .slice (.cons (.var 0) (.cons (.const (.int 2)) (.cons (.const .none) .nil)))) .nil))))) .skip)) .skip)) .skip)))
noncomputable def fn_splitroot : Fn := { np := 1, va := false, ns := 3, body := s_splitroot }
noncomputable def s_abspath : S := (.seq (.assign 0 (.call 2 (.cons (.var 0) .nil))) (.seq (.ite (.op .isInst (.cons (.var 0) (.cons (.const (.ty "bytes")) .nil))) dead (.seq (.ite (.not (.op .startswith (.cons (.var 0) (.cons (.const (.str [47])) .nil)))) dead .skip) .skip)) (.seq (.ret (.call 9 (.cons (.var 0) .nil))) .skip)))
noncomputable def fn_abspath : Fn := { np := 1, va := false, ns := 1, body := s_abspath }
noncomputable def s_relpath : S := (.seq (.assign 0 (.call 2 (.cons (.var 0) .nil))) (.seq (.ite (.not (.var 0)) dead .skip) (.seq (.ite (.op .isInst (.cons (.var 0) (.cons (.const (.ty "bytes")) .nil))) dead (.seq (.assign 2 (.const (.str [46]))) (.seq (.assign 3 (.const (.str [47]))) (.seq (.assign 4 (.const (.str [46, 46]))) .skip)))) (.seq (.ite (.op .is_ (.cons (.var 1) (.cons (.const .none) .nil))) (.seq (.assign 1 (.var 2)) .skip) (.seq (.assign 1 (.call 2 (.cons (.var 1) .nil))) .skip)) (.seq (.try_ (.seq (.assign 5 (.op .lstrip (.cons (.call 10 (.cons (.var 1) .nil)) (.cons (.var 3) .nil)))) (.seq (.assign 6 (.op .lstrip (.cons (.call 10 (.cons (.var 0) .nil)) (.cons (.var 3) .nil)))) (.seq (.assign 7 (.ite (.var 5) (.op .split (.cons (.var 5) (.cons (.var 3) .nil))) (.list .nil))) (.seq (.assign 8 (.ite (.var 6) (.op .split (.cons (.var 6) (.cons (.var 3) .nil))) (.list .nil))) (.seq (.assign 9 (.op .len (.cons (.call 12 (.cons (.list (.cons (.var 7) (.cons (.var 8) .nil))) .nil)) .nil))) (.seq (.assign 10 (.op .add (.cons (.op .mul (.cons (.list (.cons (.var 4) .nil)) (.cons (.op .sub (.cons (.op .len (.cons (.var 7) .nil)) (.cons (.var 9) .nil))) .nil))) (.cons (.op .slice (.cons (.var 8) (.cons (.var 9) (.cons (.const .none) .nil)))) .nil)))) (.seq (.ite (.not (.var 10)) (.seq (.ret (.var 2)) .skip) .skip) (.seq (.ret (.op .join (.cons (.var 3) (.cons (.var 10) .nil)))) .skip))))))))) .skip)))))
noncomputable def fn_relpath : Fn := { np := 2, va := false, ns := 11, body := s_relpath }
noncomputable def s_commonprefix : S := (.seq (.ite (.not (.var 0)) (.seq (.ret (.const (.str []))) .skip) .skip) (.seq (.ite (.not (.op .isInst (.cons (.op .index (.cons (.var 0) (.cons (.const (.int 0)) .nil))) (.cons (.tup (.cons (.const (.ty "list")) (.cons (.const (.ty "tuple")) .nil))) .nil)))) dead .skip) (.seq (.assign 1 (.op .min (.cons (.var 0) .nil))) (.seq (.assign 2 (.op .max (.cons (.var 0) .nil))) (.seq (.forE2 3 4 (.enumI (.var 1)) (.seq (.ite (.op .ne (.cons (.var 4) (.cons (.op .index (.cons (.var 2) (.cons (.var 3) .nil))) .nil))) (.seq (.ret (.op .slice (.cons (.var 1) (.cons (.const .none) (.cons (.var 3) .nil))))) .skip) .skip) .skip)) (.seq (.ret (.var 1)) .skip))))))
noncomputable def fn_commonprefix : Fn := { np := 1, va := false, ns := 5, body := s_commonprefix }
noncomputable def s_law_meant : S := (.seq (.assign 2 (.list (.cons (.const (.int 0)) .nil))) (.seq (.forE 3 (.seqI (.var 0)) (.seq (.ite (.op .is_ (.cons (.var 3) (.cons (.const .none) .nil))) (.seq (.assign 2 (.ite (.var 2) (.op .listOf (.cons (.rangeI (.cons (.op .index (.cons (.var 2) (.cons (.const (.int 0)) .nil))) (.cons (.op .add (.cons (.op .len (.cons (.var 1) .nil)) (.cons (.const (.int 1)) .nil))) .nil))) .nil)) (.list .nil))) .skip) (.seq (.assign 4 (.ite (.op .in_ (.cons (.var 3) (.cons (.tup (.cons (.const (.str [46, 97, 98])) (.cons (.const (.str [46, 98])) (.cons (.const (.str [46, 97])) .nil)))) .nil))) (.op .add (.cons (.var 3) (.cons (.const (.str [47])) .nil))) (.var 3))) (.seq (.assign 2 (.comp 5 (.seqI (.var 2)) (.and (.op .lt (.cons (.var 5) (.cons (.op .len (.cons (.var 1) .nil)) .nil))) (.op .in_ (.cons (.op .index (.cons (.var 1) (.cons (.var 5) .nil))) (.cons (.var 4) .nil)))) (.op .add (.cons (.var 5) (.cons (.const (.int 1)) .nil))))) .skip))) .skip)) (.seq (.ret (.op .in_ (.cons (.op .len (.cons (.var 1) .nil)) (.cons (.var 2) .nil)))) .skip)))
noncomputable def fn_law_meant : Fn := { np := 2, va := false, ns := 6, body := s_law_meant }
end Mine
end Dsx
section D10x
open PySem
namespace Mine
noncomputable def s_translate10 : S := (.seq (.assignO 3 (.list .nil)) (.seq (.alias 4 3) (.seq (.assign2 5 6 (.tup (.cons (.const (.int 0)) (.cons (.op .len (.cons (.var 0) .nil)) .nil)))) (.seq (.while (.op .lt (.cons (.var 5) (.cons (.var 6) .nil))) (.seq (.assign 7 (.op .index (.cons (.var 0) (.cons (.var 5) .nil)))) (.seq (.assign 5 (.op .add (.cons (.var 5) (.cons (.const (.int 1)) .nil)))) (.seq (.ite (.op .eq (.cons (.var 7) (.cons (.const (.str [42])) .nil))) (.seq (.ite (.or (.not (.var 3)) (.op .isnot (.cons (.op .index (.cons (.var 3) (.cons (.op .neg (.cons (.const (.int 1)) .nil)) .nil))) (.cons (.var 1) .nil)))) (.seq (.appendVia 4 3 (.var 1)) .skip) .skip) .skip) (.seq (.ite (.op .eq (.cons (.var 7) (.cons (.const (.str [63])) .nil))) (.seq (.appendVia 4 3 (.var 2)) .skip) (.seq (.ite (.op .eq (.cons (.var 7) (.cons (.const (.str [91])) .nil))) (.seq (.assign 8 (.var 5)) (.seq (.ite (.and (.op .lt (.cons (.var 8) (.cons (.var 6) .nil))) (.op .eq (.cons (.op .index (.cons (.var 0) (.cons (.var 8) .nil))) (.cons (.const (.str [33])) .nil)))) (.seq (.assign 8 (.op .add (.cons (.var 8) (.cons (.const (.int 1)) .nil)))) .skip) .skip) (.seq (.ite (.and (.op .lt (.cons (.var 8) (.cons (.var 6) .nil))) (.op .eq (.cons (.op .index (.cons (.var 0) (.cons (.var 8) .nil))) (.cons (.const (.str [93])) .nil)))) (.seq (.assign 8 (.op .add (.cons (.var 8) (.cons (.const (.int 1)) .nil)))) .skip) .skip) (.seq (.while (.and (.op .lt (.cons (.var 8) (.cons (.var 6) .nil))) (.op .ne (.cons (.op .index (.cons (.var 0) (.cons (.var 8) .nil))) (.cons (.const (.str [93])) .nil)))) (.seq (.assign 8 (.op .add (.cons (.var 8) (.cons (.const (.int 1)) .nil)))) .skip)) (.seq (.ite (.op .ge (.cons (.var 8) (.cons (.var 6) .nil))) (.seq (.appendVia 4 3 (.const (.str [92, 91]))) .skip) (.seq (.assign 9 (.op .slice (.cons (.var 0) (.cons (.var 5) (.cons (.var 8) .nil))))) (.seq (.ite (.op .notin (.cons (.const (.str [45])) (.cons (.var 9) .nil))) (.seq (.assign 9 (.op .replace (.cons (.var 9) (.cons (.const (.str [92])) (.cons (.const (.str [92, 92])) .nil))))) .skip) (.seq (.assignO 10 (.list .nil)) (.seq (.assign 11 (.ite (.op .eq (.cons (.op .index (.cons (.var 0) (.cons (.var 5) .nil))) (.cons (.const (.str [33])) .nil))) (.op .add (.cons (.var 5) (.cons (.const (.int 2)) .nil))) (.op .add (.cons (.var 5) (.cons (.const (.int 1)) .nil))))) (.seq (.while (.const (.bool true)) (.seq (.assign 11 (.op .find4 (.cons (.var 0) (.cons (.const (.str [45])) (.cons (.var 11) (.cons (.var 8) .nil)))))) (.seq (.ite (.op .lt (.cons (.var 11) (.cons (.const (.int 0)) .nil))) (.seq .brk .skip) .skip) (.seq (.append 10 (.op .slice (.cons (.var 0) (.cons (.var 5) (.cons (.var 11) .nil))))) (.seq (.assign 5 (.op .add (.cons (.var 11) (.cons (.const (.int 1)) .nil)))) (.seq (.assign 11 (.op .add (.cons (.var 11) (.cons (.const (.int 3)) .nil)))) .skip)))))) (.seq (.assign 12 (.op .slice (.cons (.var 0) (.cons (.var 5) (.cons (.var 8) .nil))))) (.seq (.ite (.var 12) (.seq (.append 10 (.var 12)) .skip) dead) (.seq (.forE 11 (.rangeI (.cons (.op .sub (.cons (.op .len (.cons (.var 10) .nil)) (.cons (.const (.int 1)) .nil))) (.cons (.const (.int 0)) (.cons (.op .neg (.cons (.const (.int 1)) .nil)) .nil)))) (.seq (.ite (.op .gt (.cons (.op .index (.cons (.op .index (.cons (.var 10) (.cons (.op .sub (.cons (.var 11) (.cons (.const (.int 1)) .nil))) .nil))) (.cons (.op .neg (.cons (.const (.int 1)) .nil)) .nil))) (.cons (.op .index (.cons (.op .index (.cons (.var 10) (.cons (.var 11) .nil))) (.cons (.const (.int 0)) .nil))) .nil))) (.seq (.setItem 10 (.op .sub (.cons (.var 11) (.cons (.const (.int 1)) .nil))) (.op .add (.cons (.op .slice (.cons (.op .index (.cons (.var 10) (.cons (.op .sub (.cons (.var 11) (.cons (.const (.int 1)) .nil))) .nil))) (.cons (.const .none) (.cons (.op .neg (.cons (.const (.int 1)) .nil)) .nil)))) (.cons (.op .slice (.cons (.op .index (.cons (.var 10) (.cons (.var 11) .nil))) (.cons (.const (.int 1)) (.cons (.const .none) .nil)))) .nil)))) (.seq (.delItem 10 (.var 11)) .skip)) .skip) .skip)) (.seq (.seq (.fz 10) (.assign 9 (.op .join (.cons (.const (.str [45])) (.cons (.comp 13 (.seqI (.var 10)) (.const (.bool true)) (repX 13 [92] [92, 92] [45] [92, 45])) .nil))))) .skip)))))))) (.seq (.assign 9 (.op .resub0 (.cons (.var 9) .nil))) (.seq (.assign 5 (.op .add (.cons (.var 8) (.cons (.const (.int 1)) .nil)))) (.seq (.ite (.not (.var 9)) (.seq (.appendVia 4 3 (.const (.str [40, 63, 33, 41]))) .skip) (.seq (.ite (.op .eq (.cons (.var 9) (.cons (.const (.str [33])) .nil))) (.seq (.appendVia 4 3 (.const (.str [46]))) .skip) (.seq (.ite (.op .eq (.cons (.op .index (.cons (.var 9) (.cons (.const (.int 0)) .nil))) (.cons (.const (.str [33])) .nil))) (.seq (.assign 9 (.op .add (.cons (.const (.str [94])) (.cons (.op .slice (.cons (.var 9) (.cons (.const (.int 1)) (.cons (.const .none) .nil)))) .nil)))) .skip) (.seq (.ite (.op .in_ (.cons (.op .index (.cons (.var 9) (.cons (.const (.int 0)) .nil))) (.cons (.tup (.cons (.const (.str [94])) (.cons (.const (.str [91])) .nil))) .nil))) (.seq (.assign 9 (.op .add (.cons (.const (.str [92])) (.cons (.var 9) .nil)))) .skip) .skip) .skip)) (.seq (.appendVia 4 3 (.op .fmt (.cons (.const (.str [91])) (.cons (.var 9) (.cons (.const (.str [93])) .nil))))) .skip))) .skip)) .skip)))))) .skip))))) (.seq (.appendVia 4 3 (.call 0 (.cons (.var 7) .nil))) .skip)) .skip)) .skip)) .skip)))) (.seq (.assert (.op .eq (.cons (.var 5) (.cons (.var 6) .nil)))) (.seq (.seq (.fz 3) (.ret (.var 3))) .skip))))))
noncomputable def fn_translate10 : Fn := { np := 3, va := false, ns := 14, body := s_translate10 }
noncomputable def s_normpath10 : S := (.seq (.assign 0 (.call 2 (.cons (.var 0) .nil))) (.seq (.ite (.op .isInst (.cons (.var 0) (.cons (.const (.ty "bytes")) .nil))) dead (.seq (.assign 1 (.const (.str [47]))) (.seq (.assign 2 (.const (.str [46]))) (.seq (.assign 3 (.const (.str [46, 46]))) .skip)))) (.seq (.ite (.not (.var 0)) (.seq (.ret (.var 2)) .skip) .skip) (.seq (.assign3 4 5 0 (.call 7 (.cons (.var 0) .nil))) (.seq (.assign 6 (.op .split (.cons (.var 0) (.cons (.var 1) .nil)))) (.seq (.assignO 7 (.list .nil)) (.seq (.forE 8 (.seqI (.var 6)) (.seq (.ite (.or (.not (.var 8)) (.op .eq (.cons (.var 8) (.cons (.var 2) .nil)))) (.seq .cont .skip) .skip) (.seq (.ite (.or (.op .ne (.cons (.var 8) (.cons (.var 3) .nil))) (.or (.and (.not (.var 5)) (.not (.var 7))) (.and (.var 7) (.op .eq (.cons (.op .index (.cons (.var 7) (.cons (.op .neg (.cons (.const (.int 1)) .nil)) .nil))) (.cons (.var 3) .nil)))))) (.seq (.append 7 (.var 8)) .skip) (.seq (.ite (.var 7) dead .skip) .skip)) .skip))) (.seq (.seq (.fz 7) (.assign 6 (.var 7))) (.seq (.assign 0 (.op .add (.cons (.var 5) (.cons (.op .join (.cons (.var 1) (.cons (.var 6) .nil))) .nil)))) (.seq (.ret (.or (.var 0) (.var 2))) .skip))))))))))
noncomputable def fn_normpath10 : Fn := { np := 1, va := false, ns := 9, body := s_normpath10 }
noncomputable def s_law : S := (.seq (.assign 3 (.comp 26 (.rangeI (.cons (.const (.int 8)) .nil)) (.const (.bool true)) (.op .abs (.cons (.op .sum (.cons (.op .slice3 (.cons (.var 0) (.cons (.var 26) (.cons (.const .none) (.cons (.const (.int 8)) .nil))))) .nil)) .nil)))) (.seq (.assignO 4 (.list .nil)) (.seq (.assignO 5 (.list .nil)) (.seq (.forE 2 (.rangeI (.cons (.const (.int 4)) .nil)) (.seq (.assign 6 (.op .add (.cons (.op .index (.cons (.var 3) (.cons (.var 2) .nil))) (.cons (.op .index (.cons (.tup (.cons (.const (.int 17)) (.cons (.const (.int 141)) (.cons (.const (.int 22)) (.cons (.const (.int 301)) .nil))))) (.cons (.var 2) .nil))) .nil)))) (.seq (.assign 7 (.const (.str [47]))) (.seq (.forE 8 (.rangeI (.cons (.op .add (.cons (.const (.int 1)) (.cons (.op .mod (.cons (.var 6) (.cons (.const (.int 4)) .nil))) .nil))) .nil)) (.seq (.assign 6 (.op .fdiv (.cons (.var 6) (.cons (.const (.int 4)) .nil)))) (.seq (.assign 7 (.call 4 (.cons (.var 7) (.cons (.op .index (.cons (.tup (.cons (.const (.str [97])) (.cons (.const (.str [98])) (.cons (.const (.str [46, 97])) (.cons (.const (.str [97, 98])) .nil))))) (.cons (.op .mod (.cons (.var 6) (.cons (.const (.int 4)) .nil))) .nil))) .nil)))) .skip))) (.seq (.assignO 9 (.list .nil)) (.seq (.assign 10 (.var 7)) (.seq (.while (.and (.op .ne (.cons (.var 10) (.cons (.const (.str [47])) .nil))) (.op .lt (.cons (.op .len (.cons (.var 9) .nil)) (.cons (.const (.int 9)) .nil)))) (.seq (.assign 10 (.call 6 (.cons (.var 10) .nil))) (.seq (.append 9 (.tup (.cons (.var 10) (.cons (.call 11 (.cons (.var 7) (.cons (.var 10) .nil))) .nil)))) .skip))) (.seq (.assign 11 (.op .split (.cons (.var 7) (.cons (.const (.str [47])) .nil)))) (.seq (.seq (.fz 9) (.ite (.op .ne (.cons (.comp2 27 28 (.seqI (.var 9)) (.const (.bool true)) (.var 27)) (.cons (.comp 29 (.rangeI (.cons (.op .sub (.cons (.op .len (.cons (.var 11) .nil)) (.cons (.const (.int 1)) .nil))) (.cons (.const (.int 0)) (.cons (.op .neg (.cons (.const (.int 1)) .nil)) .nil)))) (.const (.bool true)) (.or (.op .join (.cons (.const (.str [47])) (.cons (.op .slice (.cons (.var 11) (.cons (.const .none) (.cons (.var 29) .nil)))) .nil))) (.const (.str [47])))) .nil))) (.seq (.ret (.const (.bool false))) .skip) .skip)) (.seq (.seq (.fz 9) (.ite (.op .ne (.cons (.comp2 30 31 (.seqI (.var 9)) (.op .ne (.cons (.call 4 (.cons (.var 30) (.cons (.var 31) .nil))) (.cons (.var 7) .nil))) (.const (.int 1))) (.cons (.list .nil) .nil))) (.seq (.ret (.const (.bool false))) .skip) .skip)) (.seq (.append 4 (.var 7)) (.seq (.seq (.fz 9) (.append 5 (.var 9))) .skip)))))))))))) (.seq (.forE 2 (.rangeI (.cons (.const (.int 4)) .nil)) (.seq (.assign 6 (.op .add (.cons (.op .index (.cons (.var 3) (.cons (.op .add (.cons (.const (.int 4)) (.cons (.var 2) .nil))) .nil))) (.cons (.op .index (.cons (.tup (.cons (.const (.int 0)) (.cons (.const (.int 1001)) (.cons (.const (.int 30)) (.cons (.const (.int 414)) .nil))))) (.cons (.var 2) .nil))) .nil)))) (.seq (.assign 13 (.list (.cons (.call 17 (.cons (.var 6) .nil)) (.cons (.call 17 (.cons (.op .fdiv (.cons (.var 6) (.cons (.const (.int 13)) .nil))) .nil)) .nil)))) (.seq (.assign 14 (.list (.cons (.call 17 (.cons (.op .fdiv (.cons (.var 6) (.cons (.const (.int 169)) .nil))) .nil)) (.cons (.call 17 (.cons (.op .fdiv (.cons (.var 6) (.cons (.const (.int 26)) .nil))) .nil)) .nil)))) (.seq (.assign 15 (.ite (.op .eq (.cons (.op .mod (.cons (.var 6) (.cons (.const (.int 2)) .nil))) (.cons (.const (.int 1)) .nil))) (.list (.cons (.tup (.cons (.const (.str [47])) (.cons (.list (.cons (.const (.str [47])) .nil)) .nil))) .nil)) (.list .nil))) (.seq (.assign 18 (.op .join (.cons (.const (.str [])) (.cons (.comp2 32 33 (.seqI (.var 13)) (.const (.bool true)) (.var 32)) .nil)))) (.seq (.assign 19 (.op .join (.cons (.const (.str [])) (.cons (.comp2 34 35 (.seqI (.op .add (.cons (.op .add (.cons (.op .slice (.cons (.var 14) (.cons (.const .none) (.cons (.const (.int 1)) .nil)))) (.cons (.var 15) .nil))) (.cons (.op .slice (.cons (.var 14) (.cons (.const (.int 1)) (.cons (.const .none) .nil)))) .nil)))) (.const (.bool true)) (.var 34)) .nil)))) (.seq (.assign 20 (.list (.cons (.const (.str [47])) .nil))) (.seq (.forE2 16 17 (.seqI (.op .add (.cons (.op .add (.cons (.op .add (.cons (.op .add (.cons (.var 13) (.cons (.list (.cons (.tup (.cons (.const (.str [47])) (.cons (.list (.cons (.const (.str [47])) .nil)) .nil))) .nil)) .nil))) (.cons (.op .slice (.cons (.var 14) (.cons (.const .none) (.cons (.const (.int 1)) .nil)))) .nil))) (.cons (.var 15) .nil))) (.cons (.op .slice (.cons (.var 14) (.cons (.const (.int 1)) (.cons (.const .none) .nil)))) .nil)))) (.seq (.assign 20 (.op .add (.cons (.var 20) (.cons (.var 17) .nil)))) .skip)) (.seq (.assign 21 (.call 1 (.cons (.op .add (.cons (.const (.str [47])) (.cons (.var 18) .nil))) (.cons (.var 1) (.cons (.const (.str [46])) .nil))))) (.seq (.assign 22 (.call 1 (.cons (.var 19) (.cons (.var 1) (.cons (.const (.str [46])) .nil))))) (.seq (.assign 23 (.call 1 (.cons (.call 4 (.cons (.const (.str [47])) (.cons (.var 18) (.cons (.var 19) .nil)))) (.cons (.var 1) (.cons (.const (.str [46])) .nil))))) (.seq (.forE 12 (.rangeI (.cons (.const (.int 4)) .nil)) (.seq (.assign 24 (.call 15 (.cons (.var 23) (.cons (.var 1) (.cons (.op .index (.cons (.var 4) (.cons (.var 12) .nil))) .nil))))) (.seq (.seq (.fz 5) (.assign 25 (.comp2 36 37 (.seqI (.op .index (.cons (.var 5) (.cons (.var 12) .nil)))) (.and (.op .ne (.cons (.var 36) (.cons (.const (.str [47])) .nil))) (.and (.call 15 (.cons (.var 21) (.cons (.var 1) (.cons (.var 36) .nil)))) (.call 15 (.cons (.var 22) (.cons (.var 1) (.cons (.var 37) .nil)))))) (.const (.int 1))))) (.seq (.ite (.or (.op .ne (.cons (.var 24) (.cons (.op .ne (.cons (.var 25) (.cons (.list .nil) .nil))) .nil))) (.op .ne (.cons (.var 24) (.cons (.call 34 (.cons (.var 20) (.cons (.op .index (.cons (.var 4) (.cons (.var 12) .nil))) .nil))) .nil)))) (.seq (.ret (.const (.bool false))) .skip) .skip) .skip)))) .skip))))))))))))) (.seq (.ret (.const (.bool true))) .skip))))))
noncomputable def fn_law : Fn := { np := 1, va := false, ns := 38, body := s_law }
end Mine
end D10x
section W10x
open PySem PySem.Calls PyProof.Rows PySem.Builtin.Str
set_option maxHeartbeats 4000000
namespace Mine
theorem nn_QUESTION_MARK : (PySem.Str.ofString "QUESTION_MARK" == (PySem.Str.ofString "__classdict__")) = false ∧ (PySem.Str.ofString "QUESTION_MARK" == (PySem.Str.ofString "__debug__")) = false := ⟨rfl, rfl⟩
theorem nn_STAR : (PySem.Str.ofString "STAR" == (PySem.Str.ofString "__classdict__")) = false ∧ (PySem.Str.ofString "STAR" == (PySem.Str.ofString "__debug__")) = false := ⟨rfl, rfl⟩
theorem nn_a : (PySem.Str.ofString "a" == (PySem.Str.ofString "__classdict__")) = false ∧ (PySem.Str.ofString "a" == (PySem.Str.ofString "__debug__")) = false := ⟨rfl, rfl⟩
theorem nn_add : (PySem.Str.ofString "add" == (PySem.Str.ofString "__classdict__")) = false ∧ (PySem.Str.ofString "add" == (PySem.Str.ofString "__debug__")) = false := ⟨rfl, rfl⟩
theorem nn_at : (PySem.Str.ofString "at" == (PySem.Str.ofString "__classdict__")) = false ∧ (PySem.Str.ofString "at" == (PySem.Str.ofString "__debug__")) = false := ⟨rfl, rfl⟩
theorem nn_b : (PySem.Str.ofString "b" == (PySem.Str.ofString "__classdict__")) = false ∧ (PySem.Str.ofString "b" == (PySem.Str.ofString "__debug__")) = false := ⟨rfl, rfl⟩
theorem nn_barred : (PySem.Str.ofString "barred" == (PySem.Str.ofString "__classdict__")) = false ∧ (PySem.Str.ofString "barred" == (PySem.Str.ofString "__debug__")) = false := ⟨rfl, rfl⟩
theorem nn_between : (PySem.Str.ofString "between" == (PySem.Str.ofString "__classdict__")) = false ∧ (PySem.Str.ofString "between" == (PySem.Str.ofString "__debug__")) = false := ⟨rfl, rfl⟩
theorem nn_body : (PySem.Str.ofString "body" == (PySem.Str.ofString "__classdict__")) = false ∧ (PySem.Str.ofString "body" == (PySem.Str.ofString "__debug__")) = false := ⟨rfl, rfl⟩
theorem nn_c : (PySem.Str.ofString "c" == (PySem.Str.ofString "__classdict__")) = false ∧ (PySem.Str.ofString "c" == (PySem.Str.ofString "__debug__")) = false := ⟨rfl, rfl⟩
theorem nn_chunk : (PySem.Str.ofString "chunk" == (PySem.Str.ofString "__classdict__")) = false ∧ (PySem.Str.ofString "chunk" == (PySem.Str.ofString "__debug__")) = false := ⟨rfl, rfl⟩
theorem nn_chunks : (PySem.Str.ofString "chunks" == (PySem.Str.ofString "__classdict__")) = false ∧ (PySem.Str.ofString "chunks" == (PySem.Str.ofString "__debug__")) = false := ⟨rfl, rfl⟩
theorem nn_code : (PySem.Str.ofString "code" == (PySem.Str.ofString "__classdict__")) = false ∧ (PySem.Str.ofString "code" == (PySem.Str.ofString "__debug__")) = false := ⟨rfl, rfl⟩
theorem nn_comp : (PySem.Str.ofString "comp" == (PySem.Str.ofString "__classdict__")) = false ∧ (PySem.Str.ofString "comp" == (PySem.Str.ofString "__debug__")) = false := ⟨rfl, rfl⟩
theorem nn_comps : (PySem.Str.ofString "comps" == (PySem.Str.ofString "__classdict__")) = false ∧ (PySem.Str.ofString "comps" == (PySem.Str.ofString "__debug__")) = false := ⟨rfl, rfl⟩
theorem nn_curdir : (PySem.Str.ofString "curdir" == (PySem.Str.ofString "__classdict__")) = false ∧ (PySem.Str.ofString "curdir" == (PySem.Str.ofString "__debug__")) = false := ⟨rfl, rfl⟩
theorem nn_dot : (PySem.Str.ofString "dot" == (PySem.Str.ofString "__classdict__")) = false ∧ (PySem.Str.ofString "dot" == (PySem.Str.ofString "__debug__")) = false := ⟨rfl, rfl⟩
theorem nn_dotdot : (PySem.Str.ofString "dotdot" == (PySem.Str.ofString "__classdict__")) = false ∧ (PySem.Str.ofString "dotdot" == (PySem.Str.ofString "__debug__")) = false := ⟨rfl, rfl⟩
theorem nn_empty : (PySem.Str.ofString "empty" == (PySem.Str.ofString "__classdict__")) = false ∧ (PySem.Str.ofString "empty" == (PySem.Str.ofString "__debug__")) = false := ⟨rfl, rfl⟩
theorem nn_first : (PySem.Str.ofString "first" == (PySem.Str.ofString "__classdict__")) = false ∧ (PySem.Str.ofString "first" == (PySem.Str.ofString "__debug__")) = false := ⟨rfl, rfl⟩
theorem nn_folder : (PySem.Str.ofString "folder" == (PySem.Str.ofString "__classdict__")) = false ∧ (PySem.Str.ofString "folder" == (PySem.Str.ofString "__debug__")) = false := ⟨rfl, rfl⟩
theorem nn_found : (PySem.Str.ofString "found" == (PySem.Str.ofString "__classdict__")) = false ∧ (PySem.Str.ofString "found" == (PySem.Str.ofString "__debug__")) = false := ⟨rfl, rfl⟩
theorem nn_head : (PySem.Str.ofString "head" == (PySem.Str.ofString "__classdict__")) = false ∧ (PySem.Str.ofString "head" == (PySem.Str.ofString "__debug__")) = false := ⟨rfl, rfl⟩
theorem nn_high : (PySem.Str.ofString "high" == (PySem.Str.ofString "__classdict__")) = false ∧ (PySem.Str.ofString "high" == (PySem.Str.ofString "__debug__")) = false := ⟨rfl, rfl⟩
theorem nn_i : (PySem.Str.ofString "i" == (PySem.Str.ofString "__classdict__")) = false ∧ (PySem.Str.ofString "i" == (PySem.Str.ofString "__debug__")) = false := ⟨rfl, rfl⟩
theorem nn_initial_slashes : (PySem.Str.ofString "initial_slashes" == (PySem.Str.ofString "__classdict__")) = false ∧ (PySem.Str.ofString "initial_slashes" == (PySem.Str.ofString "__debug__")) = false := ⟨rfl, rfl⟩
theorem nn_item : (PySem.Str.ofString "item" == (PySem.Str.ofString "__classdict__")) = false ∧ (PySem.Str.ofString "item" == (PySem.Str.ofString "__debug__")) = false := ⟨rfl, rfl⟩
theorem nn_items : (PySem.Str.ofString "items" == (PySem.Str.ofString "__classdict__")) = false ∧ (PySem.Str.ofString "items" == (PySem.Str.ofString "__debug__")) = false := ⟨rfl, rfl⟩
theorem nn_j : (PySem.Str.ofString "j" == (PySem.Str.ofString "__classdict__")) = false ∧ (PySem.Str.ofString "j" == (PySem.Str.ofString "__debug__")) = false := ⟨rfl, rfl⟩
theorem nn_k : (PySem.Str.ofString "k" == (PySem.Str.ofString "__classdict__")) = false ∧ (PySem.Str.ofString "k" == (PySem.Str.ofString "__debug__")) = false := ⟨rfl, rfl⟩
theorem nn_kind : (PySem.Str.ofString "kind" == (PySem.Str.ofString "__classdict__")) = false ∧ (PySem.Str.ofString "kind" == (PySem.Str.ofString "__debug__")) = false := ⟨rfl, rfl⟩
theorem nn_left : (PySem.Str.ofString "left" == (PySem.Str.ofString "__classdict__")) = false ∧ (PySem.Str.ofString "left" == (PySem.Str.ofString "__debug__")) = false := ⟨rfl, rfl⟩
theorem nn_low : (PySem.Str.ofString "low" == (PySem.Str.ofString "__classdict__")) = false ∧ (PySem.Str.ofString "low" == (PySem.Str.ofString "__debug__")) = false := ⟨rfl, rfl⟩
theorem nn_m : (PySem.Str.ofString "m" == (PySem.Str.ofString "__classdict__")) = false ∧ (PySem.Str.ofString "m" == (PySem.Str.ofString "__debug__")) = false := ⟨rfl, rfl⟩
theorem nn_means : (PySem.Str.ofString "means" == (PySem.Str.ofString "__classdict__")) = false ∧ (PySem.Str.ofString "means" == (PySem.Str.ofString "__debug__")) = false := ⟨rfl, rfl⟩
theorem nn_n : (PySem.Str.ofString "n" == (PySem.Str.ofString "__classdict__")) = false ∧ (PySem.Str.ofString "n" == (PySem.Str.ofString "__debug__")) = false := ⟨rfl, rfl⟩
theorem nn_name : (PySem.Str.ofString "name" == (PySem.Str.ofString "__classdict__")) = false ∧ (PySem.Str.ofString "name" == (PySem.Str.ofString "__debug__")) = false := ⟨rfl, rfl⟩
theorem nn_names : (PySem.Str.ofString "names" == (PySem.Str.ofString "__classdict__")) = false ∧ (PySem.Str.ofString "names" == (PySem.Str.ofString "__debug__")) = false := ⟨rfl, rfl⟩
theorem nn_new_comps : (PySem.Str.ofString "new_comps" == (PySem.Str.ofString "__classdict__")) = false ∧ (PySem.Str.ofString "new_comps" == (PySem.Str.ofString "__debug__")) = false := ⟨rfl, rfl⟩
theorem nn_one : (PySem.Str.ofString "one" == (PySem.Str.ofString "__classdict__")) = false ∧ (PySem.Str.ofString "one" == (PySem.Str.ofString "__debug__")) = false := ⟨rfl, rfl⟩
theorem nn_other : (PySem.Str.ofString "other" == (PySem.Str.ofString "__classdict__")) = false ∧ (PySem.Str.ofString "other" == (PySem.Str.ofString "__debug__")) = false := ⟨rfl, rfl⟩
theorem nn_p : (PySem.Str.ofString "p" == (PySem.Str.ofString "__classdict__")) = false ∧ (PySem.Str.ofString "p" == (PySem.Str.ofString "__debug__")) = false := ⟨rfl, rfl⟩
theorem nn_pardir : (PySem.Str.ofString "pardir" == (PySem.Str.ofString "__classdict__")) = false ∧ (PySem.Str.ofString "pardir" == (PySem.Str.ofString "__debug__")) = false := ⟨rfl, rfl⟩
theorem nn_part : (PySem.Str.ofString "part" == (PySem.Str.ofString "__classdict__")) = false ∧ (PySem.Str.ofString "part" == (PySem.Str.ofString "__debug__")) = false := ⟨rfl, rfl⟩
theorem nn_parts : (PySem.Str.ofString "parts" == (PySem.Str.ofString "__classdict__")) = false ∧ (PySem.Str.ofString "parts" == (PySem.Str.ofString "__debug__")) = false := ⟨rfl, rfl⟩
theorem nn_pat : (PySem.Str.ofString "pat" == (PySem.Str.ofString "__classdict__")) = false ∧ (PySem.Str.ofString "pat" == (PySem.Str.ofString "__debug__")) = false := ⟨rfl, rfl⟩
theorem nn_path : (PySem.Str.ofString "path" == (PySem.Str.ofString "__classdict__")) = false ∧ (PySem.Str.ofString "path" == (PySem.Str.ofString "__debug__")) = false := ⟨rfl, rfl⟩
theorem nn_path_list : (PySem.Str.ofString "path_list" == (PySem.Str.ofString "__classdict__")) = false ∧ (PySem.Str.ofString "path_list" == (PySem.Str.ofString "__debug__")) = false := ⟨rfl, rfl⟩
theorem nn_path_tail : (PySem.Str.ofString "path_tail" == (PySem.Str.ofString "__classdict__")) = false ∧ (PySem.Str.ofString "path_tail" == (PySem.Str.ofString "__debug__")) = false := ⟨rfl, rfl⟩
theorem nn_paths : (PySem.Str.ofString "paths" == (PySem.Str.ofString "__classdict__")) = false ∧ (PySem.Str.ofString "paths" == (PySem.Str.ofString "__debug__")) = false := ⟨rfl, rfl⟩
theorem nn_pattern : (PySem.Str.ofString "pattern" == (PySem.Str.ofString "__classdict__")) = false ∧ (PySem.Str.ofString "pattern" == (PySem.Str.ofString "__debug__")) = false := ⟨rfl, rfl⟩
theorem nn_pieces : (PySem.Str.ofString "pieces" == (PySem.Str.ofString "__classdict__")) = false ∧ (PySem.Str.ofString "pieces" == (PySem.Str.ofString "__debug__")) = false := ⟨rfl, rfl⟩
theorem nn_rel_list : (PySem.Str.ofString "rel_list" == (PySem.Str.ofString "__classdict__")) = false ∧ (PySem.Str.ofString "rel_list" == (PySem.Str.ofString "__debug__")) = false := ⟨rfl, rfl⟩
theorem nn_res : (PySem.Str.ofString "res" == (PySem.Str.ofString "__classdict__")) = false ∧ (PySem.Str.ofString "res" == (PySem.Str.ofString "__debug__")) = false := ⟨rfl, rfl⟩
theorem nn_rest : (PySem.Str.ofString "rest" == (PySem.Str.ofString "__classdict__")) = false ∧ (PySem.Str.ofString "rest" == (PySem.Str.ofString "__debug__")) = false := ⟨rfl, rfl⟩
theorem nn_rise : (PySem.Str.ofString "rise" == (PySem.Str.ofString "__classdict__")) = false ∧ (PySem.Str.ofString "rise" == (PySem.Str.ofString "__debug__")) = false := ⟨rfl, rfl⟩
theorem nn_rises : (PySem.Str.ofString "rises" == (PySem.Str.ofString "__classdict__")) = false ∧ (PySem.Str.ofString "rises" == (PySem.Str.ofString "__debug__")) = false := ⟨rfl, rfl⟩
theorem nn_s1 : (PySem.Str.ofString "s1" == (PySem.Str.ofString "__classdict__")) = false ∧ (PySem.Str.ofString "s1" == (PySem.Str.ofString "__debug__")) = false := ⟨rfl, rfl⟩
theorem nn_s2 : (PySem.Str.ofString "s2" == (PySem.Str.ofString "__classdict__")) = false ∧ (PySem.Str.ofString "s2" == (PySem.Str.ofString "__debug__")) = false := ⟨rfl, rfl⟩
theorem nn_script : (PySem.Str.ofString "script" == (PySem.Str.ofString "__classdict__")) = false ∧ (PySem.Str.ofString "script" == (PySem.Str.ofString "__debug__")) = false := ⟨rfl, rfl⟩
theorem nn_sep : (PySem.Str.ofString "sep" == (PySem.Str.ofString "__classdict__")) = false ∧ (PySem.Str.ofString "sep" == (PySem.Str.ofString "__debug__")) = false := ⟨rfl, rfl⟩
theorem nn_sign : (PySem.Str.ofString "sign" == (PySem.Str.ofString "__classdict__")) = false ∧ (PySem.Str.ofString "sign" == (PySem.Str.ofString "__debug__")) = false := ⟨rfl, rfl⟩
theorem nn_signs : (PySem.Str.ofString "signs" == (PySem.Str.ofString "__classdict__")) = false ∧ (PySem.Str.ofString "signs" == (PySem.Str.ofString "__debug__")) = false := ⟨rfl, rfl⟩
theorem nn_some : (PySem.Str.ofString "some" == (PySem.Str.ofString "__classdict__")) = false ∧ (PySem.Str.ofString "some" == (PySem.Str.ofString "__debug__")) = false := ⟨rfl, rfl⟩
theorem nn_star : (PySem.Str.ofString "star" == (PySem.Str.ofString "__classdict__")) = false ∧ (PySem.Str.ofString "star" == (PySem.Str.ofString "__debug__")) = false := ⟨rfl, rfl⟩
theorem nn_start : (PySem.Str.ofString "start" == (PySem.Str.ofString "__classdict__")) = false ∧ (PySem.Str.ofString "start" == (PySem.Str.ofString "__debug__")) = false := ⟨rfl, rfl⟩
theorem nn_start_list : (PySem.Str.ofString "start_list" == (PySem.Str.ofString "__classdict__")) = false ∧ (PySem.Str.ofString "start_list" == (PySem.Str.ofString "__debug__")) = false := ⟨rfl, rfl⟩
theorem nn_start_tail : (PySem.Str.ofString "start_tail" == (PySem.Str.ofString "__classdict__")) = false ∧ (PySem.Str.ofString "start_tail" == (PySem.Str.ofString "__debug__")) = false := ⟨rfl, rfl⟩
theorem nn_stuff : (PySem.Str.ofString "stuff" == (PySem.Str.ofString "__classdict__")) = false ∧ (PySem.Str.ofString "stuff" == (PySem.Str.ofString "__debug__")) = false := ⟨rfl, rfl⟩
theorem nn_sums : (PySem.Str.ofString "sums" == (PySem.Str.ofString "__classdict__")) = false ∧ (PySem.Str.ofString "sums" == (PySem.Str.ofString "__debug__")) = false := ⟨rfl, rfl⟩
theorem nn_tail : (PySem.Str.ofString "tail" == (PySem.Str.ofString "__classdict__")) = false ∧ (PySem.Str.ofString "tail" == (PySem.Str.ofString "__debug__")) = false := ⟨rfl, rfl⟩
theorem nn_taken : (PySem.Str.ofString "taken" == (PySem.Str.ofString "__classdict__")) = false ∧ (PySem.Str.ofString "taken" == (PySem.Str.ofString "__debug__")) = false := ⟨rfl, rfl⟩
theorem nn_text : (PySem.Str.ofString "text" == (PySem.Str.ofString "__classdict__")) = false ∧ (PySem.Str.ofString "text" == (PySem.Str.ofString "__debug__")) = false := ⟨rfl, rfl⟩
theorem nn_then : (PySem.Str.ofString "then" == (PySem.Str.ofString "__classdict__")) = false ∧ (PySem.Str.ofString "then" == (PySem.Str.ofString "__debug__")) = false := ⟨rfl, rfl⟩
theorem nn_whole : (PySem.Str.ofString "whole" == (PySem.Str.ofString "__classdict__")) = false ∧ (PySem.Str.ofString "whole" == (PySem.Str.ofString "__debug__")) = false := ⟨rfl, rfl⟩
noncomputable abbrev fs10 : List (Str × Nat) := [(PySem.Str.ofString "escape", 0), (PySem.Str.ofString "_translate", 1), (PySem.Str.ofString "fspath", 2), (PySem.Str.ofString "_get_sep", 3), (PySem.Str.ofString "join", 4), (PySem.Str.ofString "dirname", 6), (PySem.Str.ofString "splitroot", 7), (PySem.Str.ofString "normpath", 9), (PySem.Str.ofString "abspath", 10), (PySem.Str.ofString "relpath", 11), (PySem.Str.ofString "commonprefix", 12), (PySem.Str.ofString "_law_one", 14), (PySem.Str.ofString "_law_takes", 15), (PySem.Str.ofString "_law_dressed", 17), (PySem.Str.ofString "_law_meant", 34), (PySem.Str.ofString "law", 35)]
noncomputable abbrev bs10 : List Str := [PySem.Str.ofString "str", PySem.Str.ofString "bytes", PySem.Str.ofString "list", PySem.Str.ofString "tuple", PySem.Str.ofString "len", PySem.Str.ofString "abs", PySem.Str.ofString "sum", PySem.Str.ofString "isinstance", PySem.Str.ofString "issubclass", PySem.Str.ofString "type", PySem.Str.ofString "range", PySem.Str.ofString "min", PySem.Str.ofString "max", PySem.Str.ofString "sorted", PySem.Str.ofString "map", PySem.Str.ofString "enumerate"]
noncomputable abbrev lamPos10 : Pos := ⟨238, 39, 238, 76⟩
noncomputable abbrev qs10 : List (Pos × Str) := [(lamPos10, (PySem.Str.ofString "_translate.<locals>.") ++ "<lambda>")]
noncomputable def sc_escape : Sc := { kinds := [(PySem.Str.ofString "pattern", .local), (PySem.Str.ofString "isinstance", .globalImplicit), (PySem.Str.ofString "str", .globalImplicit), (PySem.Str.ofString "_special_chars_map", .globalImplicit)], vars := [(PySem.Str.ofString "pattern", 0)] }
theorem ziN  : sc_escape.kinds.lookup (PySem.Str.ofString "str") = some .globalImplicit := rfl
theorem zdV  : sc_escape.vars.lookup (PySem.Str.ofString "pattern") = some 0 := rfl
theorem zeN  : sc_escape.kinds.lookup (PySem.Str.ofString "isinstance") = some .globalImplicit := rfl
theorem zc8  : sc_escape.kinds.lookup (PySem.Str.ofString "_special_chars_map") = some .globalImplicit := rfl
theorem zky {cx : XCx} (N : GN cx fs10 bs10) (TG : TabG cx) (sp : cx.mg (PySem.Str.ofString "_special_chars_map") = some (.ref TG.d)) : SoundSs cx sc_escape (nthBody PySem.Challenge.pw_dn0069_10 25) s_escape := by
  unfold s_escape
  exact (zab (zai (zao zeN (N.b _ (.tail _ (.tail _ (.tail _ (.tail _ (.tail _ (.tail _ (.tail _ (.head _))))))))) (by decide) rfl (.builtin _) rfl (.cons (zaa zdV nn_pattern.1 nn_pattern.2) rfl (.cons (zbj ziN (N.b _ (.head _)) (by decide) rfl rfl) rfl .nil)) zc5) (zab (zat (zgD TG rfl rfl (zaa zdV nn_pattern.1 nn_pattern.2) zc8 sp rfl))
  zad) zaV)
  zad)
noncomputable def sc_translate10 (c : Addr) : Sc := { kinds := [(PySem.Str.ofString "pat", .local), (PySem.Str.ofString "STAR", .local), (PySem.Str.ofString "QUESTION_MARK", .local), (PySem.Str.ofString "res", .local), (PySem.Str.ofString "add", .local), (PySem.Str.ofString "i", .local), (PySem.Str.ofString "n", .local), (PySem.Str.ofString "c", .local), (PySem.Str.ofString "j", .local), (PySem.Str.ofString "stuff", .local), (PySem.Str.ofString "chunks", .local), (PySem.Str.ofString "k", .local), (PySem.Str.ofString "chunk", .local), (PySem.Str.ofString "len", .globalImplicit), (PySem.Str.ofString "range", .globalImplicit), (PySem.Str.ofString "_twin_re_1", .globalImplicit), (PySem.Str.ofString "escape", .globalImplicit)], vars := [(PySem.Str.ofString "pat", 0), (PySem.Str.ofString "STAR", 1), (PySem.Str.ofString "QUESTION_MARK", 2), (PySem.Str.ofString "res", 3), (PySem.Str.ofString "add", 4), (PySem.Str.ofString "i", 5), (PySem.Str.ofString "n", 6), (PySem.Str.ofString "c", 7), (PySem.Str.ofString "j", 8), (PySem.Str.ofString "stuff", 9), (PySem.Str.ofString "chunks", 10), (PySem.Str.ofString "k", 11), (PySem.Str.ofString "chunk", 12)], code := some (c, PySem.Str.ofString "_translate.<locals>.") }
theorem zar  (c : Addr) : (sc_translate10 c).vars.lookup (PySem.Str.ofString "res") = some 3 := rfl
theorem zfw  (c : Addr) : (sc_translate10 c).kinds.lookup (PySem.Str.ofString "res") = some .local := rfl
theorem zaQ  (c : Addr) : (sc_translate10 c).vars.lookup (PySem.Str.ofString "add") = some 4 := rfl
theorem zfx  (c : Addr) : (sc_translate10 c).kinds.lookup (PySem.Str.ofString "add") = some .local := rfl
theorem zaD  (c : Addr) : (sc_translate10 c).vars.lookup (PySem.Str.ofString "pat") = some 0 := rfl
theorem zdz  (c : Addr) : (sc_translate10 c).kinds.lookup (PySem.Str.ofString "len") = some .globalImplicit := rfl
theorem zav  (c : Addr) : (sc_translate10 c).vars.lookup (PySem.Str.ofString "i") = some 5 := rfl
theorem zbl  (c : Addr) : (sc_translate10 c).vars.lookup (PySem.Str.ofString "n") = some 6 := rfl
theorem zb0  (c : Addr) : (sc_translate10 c).kinds.lookup (PySem.Str.ofString "i") = some .local := rfl
theorem zd6  (c : Addr) : (sc_translate10 c).kinds.lookup (PySem.Str.ofString "n") = some .local := rfl
theorem zbW  (c : Addr) : (sc_translate10 c).vars.lookup (PySem.Str.ofString "c") = some 7 := rfl
theorem zgN  (c : Addr) : (sc_translate10 c).kinds.lookup (PySem.Str.ofString "c") = some .local := rfl
theorem zc9  (c : Addr) : (sc_translate10 c).vars.lookup (PySem.Str.ofString "STAR") = some 1 := rfl
theorem zcX  (c : Addr) : (sc_translate10 c).vars.lookup (PySem.Str.ofString "QUESTION_MARK") = some 2 := rfl
theorem zap  (c : Addr) : (sc_translate10 c).vars.lookup (PySem.Str.ofString "j") = some 8 := rfl
theorem zcw  (c : Addr) : (sc_translate10 c).kinds.lookup (PySem.Str.ofString "j") = some .local := rfl
theorem zam  (c : Addr) : (sc_translate10 c).vars.lookup (PySem.Str.ofString "stuff") = some 9 := rfl
theorem za4  (c : Addr) : (sc_translate10 c).kinds.lookup (PySem.Str.ofString "stuff") = some .local := rfl
theorem zaq  (c : Addr) : (sc_translate10 c).vars.lookup (PySem.Str.ofString "chunks") = some 10 := rfl
theorem zeo  (c : Addr) : (sc_translate10 c).kinds.lookup (PySem.Str.ofString "chunks") = some .local := rfl
theorem zau  (c : Addr) : (sc_translate10 c).vars.lookup (PySem.Str.ofString "k") = some 11 := rfl
theorem zcv  (c : Addr) : (sc_translate10 c).kinds.lookup (PySem.Str.ofString "k") = some .local := rfl
theorem zcl  (c : Addr) : (sc_translate10 c).vars.lookup (PySem.Str.ofString "chunk") = some 12 := rfl
theorem zeH  (c : Addr) : (sc_translate10 c).kinds.lookup (PySem.Str.ofString "chunk") = some .local := rfl
theorem zeG  (c : Addr) : (sc_translate10 c).kinds.lookup (PySem.Str.ofString "range") = some .globalImplicit := rfl
theorem zdM  (c : Addr) : (sc_translate10 c).kinds.lookup (PySem.Str.ofString "_twin_re_1") = some .globalImplicit := rfl
theorem zen  (c : Addr) : (sc_translate10 c).kinds.lookup (PySem.Str.ofString "escape") = some .globalImplicit := rfl
theorem zgG {cx : XCx} (N : GN cx fs10 bs10) (G : LamG cx) (PG : PatG cx) (tw : cx.mg (PySem.Str.ofString "_twin_re_1") = some (.ref PG.P)) (hq : G.qs = qs10) : SoundSs cx (sc_translate10 G.c) (nthBody PySem.Challenge.pw_dn0069_10 27) s_translate10 := by
  unfold s_translate10
  exact (zab (zbD (zar _) (nfree (zfw _)) (zak .nil) (fun _ _ _ => rfl))
  (zab (ziC (zaQ _) (nfree (zfx _)) (zar _) nn_res.1 nn_res.2)
  (zab (ziA (zav _) (zbl _) (nfree (zb0 _)) (nfree (zd6 _)) (by decide) (zay (.cons (zac rfl) rfl (.cons (zao (zdz _) (N.b _ (.tail _ (.tail _ (.tail _ (.tail _ (.head _)))))) (by decide) rfl (.builtin _) rfl (.cons (zaa (zaD _) nn_pat.1 nn_pat.2) rfl .nil) zc4) rfl .nil))) (fun _ => rfl) (zmu (zb0 _) (zd6 _) rfl rfl rfl rfl rfl rfl))
  (zab (zcM (zaf (zaa (zav _) nn_i.1 nn_i.2) (zaa (zbl _) nn_n.1 nn_n.2) op_lt rfl) (zab (zae (zbW _) (nfree (zgN _)) (zah (zaa (zaD _) nn_pat.1 nn_pat.2) (zaa (zav _) nn_i.1 nn_i.2)) (fun _ _ _ => rfl))
  (zab (zae (zav _) (nfree (zb0 _)) (zag (zaa (zav _) nn_i.1 nn_i.2) (zac rfl) zaS) (fun _ _ _ => rfl))
  (zab (zai (zaf (zaa (zbW _) nn_c.1 nn_c.2) (zac rfl) op_eq rfl) (zab (zai (zaE (.or (zbK (zaa (zar _) nn_res.1 nn_res.2)) (.one (zaf (zah (zaa (zar _) nn_res.1 nn_res.2) (zdb (zac rfl) zfO (fun h => nomatch h))) (zaa (zc9 _) nn_STAR.1 nn_STAR.2) zmF rfl)))) (zab (zbd (zaQ _) (zar _) nn_add.1 nn_add.2 (zaa (zc9 _) nn_STAR.1 nn_STAR.2) rfl)
  zad) zad)
  zad) (zab (zai (zaf (zaa (zbW _) nn_c.1 nn_c.2) (zac rfl) op_eq rfl) (zab (zbd (zaQ _) (zar _) nn_add.1 nn_add.2 (zaa (zcX _) nn_QUESTION_MARK.1 nn_QUESTION_MARK.2) rfl)
  zad) (zab (zai (zaf (zaa (zbW _) nn_c.1 nn_c.2) (zac rfl) op_eq rfl) (zab (zae (zap _) (nfree (zcw _)) (zaa (zav _) nn_i.1 nn_i.2) (fun _ _ _ => rfl))
  (zab (zai (zaE (.and (zaf (zaa (zap _) nn_j.1 nn_j.2) (zaa (zbl _) nn_n.1 nn_n.2) op_lt rfl) (.one (zaf (zah (zaa (zaD _) nn_pat.1 nn_pat.2) (zaa (zap _) nn_j.1 nn_j.2)) (zac rfl) op_eq rfl)))) (zab (zae (zap _) (nfree (zcw _)) (zag (zaa (zap _) nn_j.1 nn_j.2) (zac rfl) zaS) (fun _ _ _ => rfl))
  zad) zad)
  (zab (zai (zaE (.and (zaf (zaa (zap _) nn_j.1 nn_j.2) (zaa (zbl _) nn_n.1 nn_n.2) op_lt rfl) (.one (zaf (zah (zaa (zaD _) nn_pat.1 nn_pat.2) (zaa (zap _) nn_j.1 nn_j.2)) (zac rfl) op_eq rfl)))) (zab (zae (zap _) (nfree (zcw _)) (zag (zaa (zap _) nn_j.1 nn_j.2) (zac rfl) zaS) (fun _ _ _ => rfl))
  zad) zad)
  (zab (zcM (zaE (.and (zaf (zaa (zap _) nn_j.1 nn_j.2) (zaa (zbl _) nn_n.1 nn_n.2) op_lt rfl) (.one (zaf (zah (zaa (zaD _) nn_pat.1 nn_pat.2) (zaa (zap _) nn_j.1 nn_j.2)) (zac rfl) op_ne rfl)))) (zab (zae (zap _) (nfree (zcw _)) (zag (zaa (zap _) nn_j.1 nn_j.2) (zac rfl) zaS) (fun _ _ _ => rfl))
  zad))
  (zab (zai (zaf (zaa (zap _) nn_j.1 nn_j.2) (zaa (zbl _) nn_n.1 nn_n.2) op_ge rfl) (zab (zbd (zaQ _) (zar _) nn_add.1 nn_add.2 (zac rfl) rfl)
  zad) (zab (zae (zam _) (nfree (za4 _)) (zax (zaa (zaD _) nn_pat.1 nn_pat.2) (.yes (zaa (zav _) nn_i.1 nn_i.2)) (.yes (zaa (zap _) nn_j.1 nn_j.2))) (fun _ _ _ => rfl))
  (zab (zai (zaf (zac rfl) (zaa (zam _) nn_stuff.1 nn_stuff.2) zmE rfl) (zab (zae (zam _) (nfree (za4 _)) (zlF rfl rfl (by decide) (zaa (zam _) nn_stuff.1 nn_stuff.2) (.cons (zac rfl) rfl (.cons (zac rfl) rfl .nil))) (fun _ _ _ => rfl))
  zad) (zab (zbD (zaq _) (nfree (zeo _)) (zak .nil) (fun _ _ _ => rfl))
  (zab (zae (zau _) (nfree (zcv _)) (zcL (zaf (zah (zaa (zaD _) nn_pat.1 nn_pat.2) (zaa (zav _) nn_i.1 nn_i.2)) (zac rfl) op_eq rfl) (zag (zaa (zav _) nn_i.1 nn_i.2) (zac rfl) zaS) (zag (zaa (zav _) nn_i.1 nn_i.2) (zac rfl) zaS)) (fun _ _ _ => rfl))
  (zab (zcM (zac rfl) (zab (zae (zau _) (nfree (zcv _)) (m_find rfl rfl (by decide) (zaa (zaD _) nn_pat.1 nn_pat.2) (.cons (zac rfl) rfl (.cons (zaa (zau _) nn_k.1 nn_k.2) rfl (.cons (zaa (zap _) nn_j.1 nn_j.2) rfl .nil)))) (fun _ _ _ => rfl))
  (zab (zai (zaf (zaa (zau _) nn_k.1 nn_k.2) (zac rfl) op_lt rfl) (zab ziB
  zad) zad)
  (zab (zb7 (zaq _) nn_chunks.1 nn_chunks.2 rfl (zax (zaa (zaD _) nn_pat.1 nn_pat.2) (.yes (zaa (zav _) nn_i.1 nn_i.2)) (.yes (zaa (zau _) nn_k.1 nn_k.2))) rfl)
  (zab (zae (zav _) (nfree (zb0 _)) (zag (zaa (zau _) nn_k.1 nn_k.2) (zac rfl) zaS) (fun _ _ _ => rfl))
  (zab (zae (zau _) (nfree (zcv _)) (zag (zaa (zau _) nn_k.1 nn_k.2) (zac rfl) zaS) (fun _ _ _ => rfl))
  zad))))))
  (zab (zae (zcl _) (nfree (zeH _)) (zax (zaa (zaD _) nn_pat.1 nn_pat.2) (.yes (zaa (zav _) nn_i.1 nn_i.2)) (.yes (zaa (zap _) nn_j.1 nn_j.2))) (fun _ _ _ => rfl))
  (zab (zai (zaa (zcl _) nn_chunk.1 nn_chunk.2) (zab (zb7 (zaq _) nn_chunks.1 nn_chunks.2 rfl (zaa (zcl _) nn_chunk.1 nn_chunk.2) rfl)
  zad) zaV)
  (zab (zb6 (zau _) (nfree (zcv _)) (zbZ (zeG _) (N.b _ (.tail _ (.tail _ (.tail _ (.tail _ (.tail _ (.tail _ (.tail _ (.tail _ (.tail _ (.tail _ (.head _)))))))))))) (.cons (zag (zao (zdz _) (N.b _ (.tail _ (.tail _ (.tail _ (.tail _ (.head _)))))) (by decide) rfl (.builtin _) rfl (.cons (zaa (zaq _) nn_chunks.1 nn_chunks.2) rfl .nil) zc4) (zac rfl) zhA) rfl (.cons (zac rfl) rfl (.cons (zdb (zac rfl) zfO (fun h => nomatch h)) rfl .nil)))) (zab (zai (zaf (zah (zah (zaa (zaq _) nn_chunks.1 nn_chunks.2) (zag (zaa (zau _) nn_k.1 nn_k.2) (zac rfl) zhA)) (zdb (zac rfl) zfO (fun h => nomatch h))) (zah (zah (zaa (zaq _) nn_chunks.1 nn_chunks.2) (zaa (zau _) nn_k.1 nn_k.2)) (zac rfl)) op_gt rfl) (zab (zg8 (zaq _) nn_chunks.1 nn_chunks.2 (zag (zaa (zau _) nn_k.1 nn_k.2) (zac rfl) zhA) (zag (zax (zah (zaa (zaq _) nn_chunks.1 nn_chunks.2) (zag (zaa (zau _) nn_k.1 nn_k.2) (zac rfl) zhA)) .no (.yes (zdb (zac rfl) zfO (fun h => nomatch h)))) (zax (zah (zaa (zaq _) nn_chunks.1 nn_chunks.2) (zaa (zau _) nn_k.1 nn_k.2)) (.yes (zac rfl)) .no) zaS) (fun _ => rfl))
  (zab (zha (zaq _) nn_chunks.1 nn_chunks.2 (zaa (zau _) nn_k.1 nn_k.2))
  zad)) zad)
  zad) (fun _ _ => rfl))
  (zab (zc2 ⟨_, (zaq _)⟩ (zae (zam _) (nfree (za4 _)) (zhT G rfl rfl rfl rfl rfl rfl (by decide) (by decide) rfl (apart1 hq rfl) (zbk (zaa (zaq _) nn_chunks.1 nn_chunks.2)) (fun _ _ => rfl) rfl (by decide) (by decide) rfl rfl rfl rfl) (fun _ _ _ => rfl)))
  zad))))))))
  (zab (zae (zam _) (nfree (za4 _)) (ziz G PG (zdM _) tw rfl rfl (by rw [hq]; exact .head _) rfl rfl rfl (zaa (zam _) nn_stuff.1 nn_stuff.2)) (fun _ _ _ => rfl))
  (zab (zae (zav _) (nfree (zb0 _)) (zag (zaa (zap _) nn_j.1 nn_j.2) (zac rfl) zaS) (fun _ _ _ => rfl))
  (zab (zai (zbK (zaa (zam _) nn_stuff.1 nn_stuff.2)) (zab (zbd (zaQ _) (zar _) nn_add.1 nn_add.2 (zac (by kernel_rfl)) rfl)
  zad) (zab (zai (zaf (zaa (zam _) nn_stuff.1 nn_stuff.2) (zac rfl) op_eq rfl) (zab (zbd (zaQ _) (zar _) nn_add.1 nn_add.2 (zac rfl) rfl)
  zad) (zab (zai (zaf (zah (zaa (zam _) nn_stuff.1 nn_stuff.2) (zac rfl)) (zac rfl) op_eq rfl) (zab (zae (zam _) (nfree (za4 _)) (zag (zac rfl) (zax (zaa (zam _) nn_stuff.1 nn_stuff.2) (.yes (zac rfl)) .no) zaS) (fun _ _ _ => rfl))
  zad) (zab (zai (zaf (zah (zaa (zam _) nn_stuff.1 nn_stuff.2) (zac rfl)) (zay (.cons (zac rfl) rfl (.cons (zac rfl) rfl .nil))) op_in rfl) (zab (zae (zam _) (nfree (za4 _)) (zag (zac rfl) (zaa (zam _) nn_stuff.1 nn_stuff.2) zaS) (fun _ _ _ => rfl))
  zad) zad)
  zad))
  (zab (zbd (zaQ _) (zar _) nn_add.1 nn_add.2 (zlk (zaa (zam _) nn_stuff.1 nn_stuff.2) rfl rfl) rfl)
  zad)))
  zad))
  zad))))))
  zad))))) (zab (zbd (zaQ _) (zar _) nn_add.1 nn_add.2 (zan (zen _) (N.f _ 0 (.head _)) rfl (.cons (zaa (zbW _) nn_c.1 nn_c.2) rfl .nil)) rfl)
  zad))
  zad))
  zad))
  zad))))
  (zab (zhU (zaf (zaa (zav _) nn_i.1 nn_i.2) (zaa (zbl _) nn_n.1 nn_n.2) op_eq rfl))
  (zab (zc2 ⟨_, (zar _)⟩ (zat (zaa (zar _) nn_res.1 nn_res.2)))
  zad))))))
noncomputable def sc_fspath : Sc := { kinds := [(PySem.Str.ofString "path", .local), (PySem.Str.ofString "kind", .local), (PySem.Str.ofString "hook", .local), (PySem.Str.ofString "given", .local), (PySem.Str.ofString "type", .globalImplicit), (PySem.Str.ofString "issubclass", .globalImplicit), (PySem.Str.ofString "str", .globalImplicit), (PySem.Str.ofString "bytes", .globalImplicit), (PySem.Str.ofString "_abc_plain_meta", .globalImplicit), (PySem.Str.ofString "getattr", .globalImplicit), (PySem.Str.ofString "TypeError", .globalImplicit), (PySem.Str.ofString "_plain_name", .globalImplicit), (PySem.Str.ofString "_wall", .globalImplicit), (PySem.Str.ofString "len", .globalImplicit)], vars := [(PySem.Str.ofString "path", 0), (PySem.Str.ofString "kind", 1), (PySem.Str.ofString "hook", 2), (PySem.Str.ofString "given", 3)] }
theorem zeT  : sc_fspath.vars.lookup (PySem.Str.ofString "path") = some 0 := rfl
theorem zib  : sc_fspath.kinds.lookup (PySem.Str.ofString "type") = some .globalImplicit := rfl
theorem zeU  : sc_fspath.vars.lookup (PySem.Str.ofString "kind") = some 1 := rfl
theorem zic  : sc_fspath.kinds.lookup (PySem.Str.ofString "kind") = some .local := rfl
theorem zhh  : sc_fspath.kinds.lookup (PySem.Str.ofString "bytes") = some .globalImplicit := rfl
theorem ziM  : sc_fspath.kinds.lookup (PySem.Str.ofString "str") = some .globalImplicit := rfl
theorem zeM  : sc_fspath.kinds.lookup (PySem.Str.ofString "issubclass") = some .globalImplicit := rfl
theorem zkx {cx : XCx} (N : GN cx fs10 bs10) : SoundSs cx sc_fspath (nthBody PySem.Challenge.pw_dn0069_10 10) s_fspath := by
  unfold s_fspath
  exact (zab (zae zeU (nfree zic) (zao zib (N.b _ (.tail _ (.tail _ (.tail _ (.tail _ (.tail _ (.tail _ (.tail _ (.tail _ (.tail _ (.head _))))))))))) (by decide) rfl (.type _) rfl (.cons (zaa zeT nn_path.1 nn_path.2) rfl .nil) op_tyOf) (fun _ _ _ => rfl))
  (zab (zai (zao zeM (N.b _ (.tail _ (.tail _ (.tail _ (.tail _ (.tail _ (.tail _ (.tail _ (.tail _ (.head _)))))))))) (by decide) rfl (.builtin _) rfl (.cons (zaa zeU nn_kind.1 nn_kind.2) rfl (.cons (zay (.cons (zbj ziM (N.b _ (.head _)) (by decide) rfl rfl) rfl (.cons (zbj zhh (N.b _ (.tail _ (.head _))) (by decide) rfl rfl) rfl .nil))) rfl .nil)) zmG) (zab (zat (zaa zeT nn_path.1 nn_path.2))
  zad) zad)
  zaV))
noncomputable def sc_get_sep : Sc := { kinds := [(PySem.Str.ofString "path", .local), (PySem.Str.ofString "isinstance", .globalImplicit), (PySem.Str.ofString "bytes", .globalImplicit)], vars := [(PySem.Str.ofString "path", 0)] }
theorem zgT  : sc_get_sep.kinds.lookup (PySem.Str.ofString "bytes") = some .globalImplicit := rfl
theorem zg3  : sc_get_sep.vars.lookup (PySem.Str.ofString "path") = some 0 := rfl
theorem zet  : sc_get_sep.kinds.lookup (PySem.Str.ofString "isinstance") = some .globalImplicit := rfl
theorem zjf {cx : XCx} (N : GN cx fs10 bs10) : SoundSs cx sc_get_sep (nthBody PySem.Challenge.pw_dn0069_10 15) s_get_sep := by
  unfold s_get_sep
  exact (zab (zai (zao zet (N.b _ (.tail _ (.tail _ (.tail _ (.tail _ (.tail _ (.tail _ (.tail _ (.head _))))))))) (by decide) rfl (.builtin _) rfl (.cons (zaa zg3 nn_path.1 nn_path.2) rfl (.cons (zbj zgT (N.b _ (.tail _ (.head _))) (by decide) rfl rfl) rfl .nil)) zc5) zaV (zab (zat (zac rfl))
  zad))
  zad)
noncomputable def sc_join : Sc := { kinds := [(PySem.Str.ofString "a", .local), (PySem.Str.ofString "p", .local), (PySem.Str.ofString "sep", .local), (PySem.Str.ofString "path", .local), (PySem.Str.ofString "b", .local), (PySem.Str.ofString "fspath", .globalImplicit), (PySem.Str.ofString "_get_sep", .globalImplicit), (PySem.Str.ofString "TypeError", .globalImplicit), (PySem.Str.ofString "AttributeError", .globalImplicit), (PySem.Str.ofString "BytesWarning", .globalImplicit), (PySem.Str.ofString "_check_arg_types", .globalImplicit)], vars := [(PySem.Str.ofString "a", 0), (PySem.Str.ofString "p", 1), (PySem.Str.ofString "sep", 2), (PySem.Str.ofString "path", 3), (PySem.Str.ofString "b", 4)] }
theorem zgg  : sc_join.vars.lookup (PySem.Str.ofString "a") = some 0 := rfl
theorem ze7  : sc_join.kinds.lookup (PySem.Str.ofString "fspath") = some .globalImplicit := rfl
theorem zmP  : sc_join.kinds.lookup (PySem.Str.ofString "a") = some .local := rfl
theorem zhg  : sc_join.kinds.lookup (PySem.Str.ofString "_get_sep") = some .globalImplicit := rfl
theorem zee  : sc_join.vars.lookup (PySem.Str.ofString "sep") = some 2 := rfl
theorem zkP  : sc_join.kinds.lookup (PySem.Str.ofString "sep") = some .local := rfl
theorem zcp  : sc_join.vars.lookup (PySem.Str.ofString "path") = some 3 := rfl
theorem zdO  : sc_join.kinds.lookup (PySem.Str.ofString "path") = some .local := rfl
theorem zmr  : sc_join.vars.lookup (PySem.Str.ofString "p") = some 1 := rfl
theorem zdH  : sc_join.vars.lookup (PySem.Str.ofString "b") = some 4 := rfl
theorem zj9  : sc_join.kinds.lookup (PySem.Str.ofString "b") = some .local := rfl
theorem zmx {cx : XCx} (N : GN cx fs10 bs10) : SoundSs cx sc_join (nthBody PySem.Challenge.pw_dn0069_10 16) s_join := by
  unfold s_join
  exact (zab (zae zgg (nfree zmP) (zan ze7 (N.f _ 2 (.tail _ (.tail _ (.head _)))) rfl (.cons (zaa zgg nn_a.1 nn_a.2) rfl .nil)) (fun _ _ _ => rfl))
  (zab (zae zee (nfree zkP) (zan zhg (N.f _ 3 (.tail _ (.tail _ (.tail _ (.head _))))) rfl (.cons (zaa zgg nn_a.1 nn_a.2) rfl .nil)) (fun _ _ _ => rfl))
  (zab (zae zcp (nfree zdO) (zaa zgg nn_a.1 nn_a.2) (fun _ _ _ => rfl))
  (zab (zhv (zab (zb6 zdH (nfree zj9) (zbk (zaa zmr nn_p.1 nn_p.2)) (zab (zae zdH (nfree zj9) (zan ze7 (N.f _ 2 (.tail _ (.tail _ (.head _)))) rfl (.cons (zaa zdH nn_b.1 nn_b.2) rfl .nil)) (fun _ _ _ => rfl))
  (zab (zai (zaE (.or (zfR rfl rfl (by decide) (zaa zdH nn_b.1 nn_b.2) (.cons (zaa zee nn_sep.1 nn_sep.2) rfl .nil)) (.one (zbK (zaa zcp nn_path.1 nn_path.2))))) (zab (zae zcp (nfree zdO) (zaa zdH nn_b.1 nn_b.2) (fun _ _ _ => rfl))
  zad) (zab (zai (zkF rfl rfl (by decide) (zaa zcp nn_path.1 nn_path.2) (.cons (zaa zee nn_sep.1 nn_sep.2) rfl .nil)) (zab (zhw zcp (nfree zdO) nn_path.1 (zaa zdH nn_b.1 nn_b.2))
  zad) (zab (zhw zcp (nfree zdO) nn_path.1 (zag (zaa zee nn_sep.1 nn_sep.2) (zaa zdH nn_b.1 nn_b.2) zaS))
  zad))
  zad))
  zad)) (fun _ _ => rfl))
  zad))
  (zab (zat (zaa zcp nn_path.1 nn_path.2))
  zad)))))
noncomputable def sc_dirname : Sc := { kinds := [(PySem.Str.ofString "p", .local), (PySem.Str.ofString "sep", .local), (PySem.Str.ofString "i", .local), (PySem.Str.ofString "head", .local), (PySem.Str.ofString "fspath", .globalImplicit), (PySem.Str.ofString "_get_sep", .globalImplicit), (PySem.Str.ofString "len", .globalImplicit)], vars := [(PySem.Str.ofString "p", 0), (PySem.Str.ofString "sep", 1), (PySem.Str.ofString "i", 2), (PySem.Str.ofString "head", 3)] }
theorem zcZ  : sc_dirname.vars.lookup (PySem.Str.ofString "p") = some 0 := rfl
theorem zf9  : sc_dirname.kinds.lookup (PySem.Str.ofString "fspath") = some .globalImplicit := rfl
theorem zjE  : sc_dirname.kinds.lookup (PySem.Str.ofString "p") = some .local := rfl
theorem zfF  : sc_dirname.kinds.lookup (PySem.Str.ofString "_get_sep") = some .globalImplicit := rfl
theorem zcV  : sc_dirname.vars.lookup (PySem.Str.ofString "sep") = some 1 := rfl
theorem zid  : sc_dirname.kinds.lookup (PySem.Str.ofString "sep") = some .local := rfl
theorem zgt  : sc_dirname.vars.lookup (PySem.Str.ofString "i") = some 2 := rfl
theorem zjF  : sc_dirname.kinds.lookup (PySem.Str.ofString "i") = some .local := rfl
theorem zbC  : sc_dirname.vars.lookup (PySem.Str.ofString "head") = some 3 := rfl
theorem zeA  : sc_dirname.kinds.lookup (PySem.Str.ofString "head") = some .local := rfl
theorem zie  : sc_dirname.kinds.lookup (PySem.Str.ofString "len") = some .globalImplicit := rfl
theorem zjg {cx : XCx} (N : GN cx fs10 bs10) : SoundSs cx sc_dirname (nthBody PySem.Challenge.pw_dn0069_10 18) s_dirname := by
  unfold s_dirname
  exact (zab (zae zcZ (nfree zjE) (zan zf9 (N.f _ 2 (.tail _ (.tail _ (.head _)))) rfl (.cons (zaa zcZ nn_p.1 nn_p.2) rfl .nil)) (fun _ _ _ => rfl))
  (zab (zae zcV (nfree zid) (zan zfF (N.f _ 3 (.tail _ (.tail _ (.tail _ (.head _))))) rfl (.cons (zaa zcZ nn_p.1 nn_p.2) rfl .nil)) (fun _ _ _ => rfl))
  (zab (zae zgt (nfree zjF) (zag (m_rfind rfl rfl (by decide) (zaa zcZ nn_p.1 nn_p.2) (.cons (zaa zcV nn_sep.1 nn_sep.2) rfl .nil)) (zac rfl) zaS) (fun _ _ _ => rfl))
  (zab (zae zbC (nfree zeA) (zax (zaa zcZ nn_p.1 nn_p.2) .no (.yes (zaa zgt nn_i.1 nn_i.2))) (fun _ _ _ => rfl))
  (zab (zai (zaE (.and (zaa zbC nn_head.1 nn_head.2) (.one (zaf (zaa zbC nn_head.1 nn_head.2) (zag (zaa zcV nn_sep.1 nn_sep.2) (zao zie (N.b _ (.tail _ (.tail _ (.tail _ (.tail _ (.head _)))))) (by decide) rfl (.builtin _) rfl (.cons (zaa zbC nn_head.1 nn_head.2) rfl .nil) zc4) zm8) op_ne rfl)))) (zab (zae zbC (nfree zeA) (zmM rfl rfl (by decide) (zaa zbC nn_head.1 nn_head.2) (.cons (zaa zcV nn_sep.1 nn_sep.2) rfl .nil)) (fun _ _ _ => rfl))
  zad) zad)
  (zab (zat (zaa zbC nn_head.1 nn_head.2))
  zad))))))
noncomputable def sc_splitroot : Sc := { kinds := [(PySem.Str.ofString "p", .local), (PySem.Str.ofString "sep", .local), (PySem.Str.ofString "empty", .local), (PySem.Str.ofString "fspath", .globalImplicit), (PySem.Str.ofString "isinstance", .globalImplicit), (PySem.Str.ofString "bytes", .globalImplicit)], vars := [(PySem.Str.ofString "p", 0), (PySem.Str.ofString "sep", 1), (PySem.Str.ofString "empty", 2)] }
theorem za5  : sc_splitroot.vars.lookup (PySem.Str.ofString "p") = some 0 := rfl
theorem ze2  : sc_splitroot.kinds.lookup (PySem.Str.ofString "fspath") = some .globalImplicit := rfl
theorem zh4  : sc_splitroot.kinds.lookup (PySem.Str.ofString "p") = some .local := rfl
theorem zfz  : sc_splitroot.kinds.lookup (PySem.Str.ofString "bytes") = some .globalImplicit := rfl
theorem zdZ  : sc_splitroot.kinds.lookup (PySem.Str.ofString "isinstance") = some .globalImplicit := rfl
theorem zbX  : sc_splitroot.vars.lookup (PySem.Str.ofString "sep") = some 1 := rfl
theorem zgO  : sc_splitroot.kinds.lookup (PySem.Str.ofString "sep") = some .local := rfl
theorem zbF  : sc_splitroot.vars.lookup (PySem.Str.ofString "empty") = some 2 := rfl
theorem zfy  : sc_splitroot.kinds.lookup (PySem.Str.ofString "empty") = some .local := rfl
theorem zhW {cx : XCx} (N : GN cx fs10 bs10) : SoundSs cx sc_splitroot (nthBody PySem.Challenge.pw_dn0069_10 17) s_splitroot := by
  unfold s_splitroot
  exact (zab (zae za5 (nfree zh4) (zan ze2 (N.f _ 2 (.tail _ (.tail _ (.head _)))) rfl (.cons (zaa za5 nn_p.1 nn_p.2) rfl .nil)) (fun _ _ _ => rfl))
  (zab (zai (zao zdZ (N.b _ (.tail _ (.tail _ (.tail _ (.tail _ (.tail _ (.tail _ (.tail _ (.head _))))))))) (by decide) rfl (.builtin _) rfl (.cons (zaa za5 nn_p.1 nn_p.2) rfl (.cons (zbj zfz (N.b _ (.tail _ (.head _))) (by decide) rfl rfl) rfl .nil)) zc5) zaV (zab (zae zbX (nfree zgO) (zac rfl) (fun _ _ _ => rfl))
  (zab (zae zbF (nfree zfy) (zac rfl) (fun _ _ _ => rfl))
  zad)))
  (zab (zai (zaf (zax (zaa za5 nn_p.1 nn_p.2) .no (.yes (zac rfl))) (zaa zbX nn_sep.1 nn_sep.2) op_ne rfl) (zab (zat (zay (.cons (zaa zbF nn_empty.1 nn_empty.2) rfl (.cons (zaa zbF nn_empty.1 nn_empty.2) rfl (.cons (zaa za5 nn_p.1 nn_p.2) rfl .nil)))))
  zad) (zab (zai (zaE (.or (zaf (zax (zaa za5 nn_p.1 nn_p.2) (.yes (zac rfl)) (.yes (zac rfl))) (zaa zbX nn_sep.1 nn_sep.2) op_ne rfl) (.one (zaf (zax (zaa za5 nn_p.1 nn_p.2) (.yes (zac rfl)) (.yes (zac rfl))) (zaa zbX nn_sep.1 nn_sep.2) op_eq rfl)))) (zab (zat (zay (.cons (zaa zbF nn_empty.1 nn_empty.2) rfl (.cons (zaa zbX nn_sep.1 nn_sep.2) rfl (.cons (zax (zaa za5 nn_p.1 nn_p.2) (.yes (zac rfl)) .no) rfl .nil)))))
  zad) (zab (zat (zay (.cons (zaa zbF nn_empty.1 nn_empty.2) rfl (.cons (zax (zaa za5 nn_p.1 nn_p.2) .no (.yes (zac rfl))) rfl (.cons (zax (zaa za5 nn_p.1 nn_p.2) (.yes (zac rfl)) .no) rfl .nil)))))
  zad))
  zad))
  zad)))
noncomputable def sc_normpath10 : Sc := { kinds := [(PySem.Str.ofString "path", .local), (PySem.Str.ofString "sep", .local), (PySem.Str.ofString "dot", .local), (PySem.Str.ofString "dotdot", .local), (PySem.Str.ofString "_", .local), (PySem.Str.ofString "initial_slashes", .local), (PySem.Str.ofString "comps", .local), (PySem.Str.ofString "new_comps", .local), (PySem.Str.ofString "comp", .local), (PySem.Str.ofString "fspath", .globalImplicit), (PySem.Str.ofString "isinstance", .globalImplicit), (PySem.Str.ofString "bytes", .globalImplicit), (PySem.Str.ofString "splitroot", .globalImplicit)], vars := [(PySem.Str.ofString "path", 0), (PySem.Str.ofString "sep", 1), (PySem.Str.ofString "dot", 2), (PySem.Str.ofString "dotdot", 3), (PySem.Str.ofString "_", 4), (PySem.Str.ofString "initial_slashes", 5), (PySem.Str.ofString "comps", 6), (PySem.Str.ofString "new_comps", 7), (PySem.Str.ofString "comp", 8)] }
theorem zaJ  : sc_normpath10.vars.lookup (PySem.Str.ofString "path") = some 0 := rfl
theorem zeK  : sc_normpath10.kinds.lookup (PySem.Str.ofString "fspath") = some .globalImplicit := rfl
theorem zcC  : sc_normpath10.kinds.lookup (PySem.Str.ofString "path") = some .local := rfl
theorem ze5  : sc_normpath10.kinds.lookup (PySem.Str.ofString "bytes") = some .globalImplicit := rfl
theorem zdN  : sc_normpath10.kinds.lookup (PySem.Str.ofString "isinstance") = some .globalImplicit := rfl
theorem zcR  : sc_normpath10.vars.lookup (PySem.Str.ofString "sep") = some 1 := rfl
theorem zf2  : sc_normpath10.kinds.lookup (PySem.Str.ofString "sep") = some .local := rfl
theorem zcj  : sc_normpath10.vars.lookup (PySem.Str.ofString "dot") = some 2 := rfl
theorem zf3  : sc_normpath10.kinds.lookup (PySem.Str.ofString "dot") = some .local := rfl
theorem zco  : sc_normpath10.vars.lookup (PySem.Str.ofString "dotdot") = some 3 := rfl
theorem zeL  : sc_normpath10.kinds.lookup (PySem.Str.ofString "dotdot") = some .local := rfl
theorem zd1  : sc_normpath10.kinds.lookup (PySem.Str.ofString "splitroot") = some .globalImplicit := rfl
theorem zhK  : sc_normpath10.vars.lookup (PySem.Str.ofString "_") = some 4 := rfl
theorem zbf  : sc_normpath10.vars.lookup (PySem.Str.ofString "initial_slashes") = some 5 := rfl
theorem zh6  : sc_normpath10.kinds.lookup (PySem.Str.ofString "_") = some .local := rfl
theorem zcW  : sc_normpath10.kinds.lookup (PySem.Str.ofString "initial_slashes") = some .local := rfl
theorem zbR  : sc_normpath10.vars.lookup (PySem.Str.ofString "comps") = some 6 := rfl
theorem zde  : sc_normpath10.kinds.lookup (PySem.Str.ofString "comps") = some .local := rfl
theorem zaz  : sc_normpath10.vars.lookup (PySem.Str.ofString "new_comps") = some 7 := rfl
theorem zd2  : sc_normpath10.kinds.lookup (PySem.Str.ofString "new_comps") = some .local := rfl
theorem zbG  : sc_normpath10.vars.lookup (PySem.Str.ofString "comp") = some 8 := rfl
theorem zfA  : sc_normpath10.kinds.lookup (PySem.Str.ofString "comp") = some .local := rfl
theorem zhc {cx : XCx} (N : GN cx fs10 bs10) : SoundSs cx sc_normpath10 (nthBody PySem.Challenge.pw_dn0069_10 19) s_normpath10 := by
  unfold s_normpath10
  exact (zab (zae zaJ (nfree zcC) (zan zeK (N.f _ 2 (.tail _ (.tail _ (.head _)))) rfl (.cons (zaa zaJ nn_path.1 nn_path.2) rfl .nil)) (fun _ _ _ => rfl))
  (zab (zai (zao zdN (N.b _ (.tail _ (.tail _ (.tail _ (.tail _ (.tail _ (.tail _ (.tail _ (.head _))))))))) (by decide) rfl (.builtin _) rfl (.cons (zaa zaJ nn_path.1 nn_path.2) rfl (.cons (zbj ze5 (N.b _ (.tail _ (.head _))) (by decide) rfl rfl) rfl .nil)) zc5) zaV (zab (zae zcR (nfree zf2) (zac rfl) (fun _ _ _ => rfl))
  (zab (zae zcj (nfree zf3) (zac rfl) (fun _ _ _ => rfl))
  (zab (zae zco (nfree zeL) (zac rfl) (fun _ _ _ => rfl))
  zad))))
  (zab (zai (zbK (zaa zaJ nn_path.1 nn_path.2)) (zab (zat (zaa zcj nn_dot.1 nn_dot.2))
  zad) zad)
  (zab (zhb zhK zbf zaJ (nfree zh6) (nfree zcW) (nfree zcC) (zan zd1 (N.f _ 7 (.tail _ (.tail _ (.tail _ (.tail _ (.tail _ (.tail _ (.head _)))))))) rfl (.cons (zaa zaJ nn_path.1 nn_path.2) rfl .nil)) (fun _ => rfl) (fun _ => rfl))
  (zab (zae zbR (nfree zde) (zh2 rfl rfl (by decide) (zaa zaJ nn_path.1 nn_path.2) (.cons (zaa zcR nn_sep.1 nn_sep.2) rfl .nil)) (fun _ _ _ => rfl))
  (zab (zbD zaz (nfree zd2) (zak .nil) (fun _ _ _ => rfl))
  (zab (zb6 zbG (nfree zfA) (zbk (zaa zbR nn_comps.1 nn_comps.2)) (zab (zai (zaE (.or (zbK (zaa zbG nn_comp.1 nn_comp.2)) (.one (zaf (zaa zbG nn_comp.1 nn_comp.2) (zaa zcj nn_dot.1 nn_dot.2) op_eq rfl)))) (zab zgE
  zad) zad)
  (zab (zai (zaE (.or (zaf (zaa zbG nn_comp.1 nn_comp.2) (zaa zco nn_dotdot.1 nn_dotdot.2) op_ne rfl) (.or (zaE (.and (zbK (zaa zbf nn_initial_slashes.1 nn_initial_slashes.2)) (.one (zbK (zaa zaz nn_new_comps.1 nn_new_comps.2))))) (.one (zaE (.and (zaa zaz nn_new_comps.1 nn_new_comps.2) (.one (zaf (zah (zaa zaz nn_new_comps.1 nn_new_comps.2) (zdb (zac rfl) zfO (fun h => nomatch h))) (zaa zco nn_dotdot.1 nn_dotdot.2) op_eq rfl)))))))) (zab (zb7 zaz nn_new_comps.1 nn_new_comps.2 rfl (zaa zbG nn_comp.1 nn_comp.2) rfl)
  zad) (zab (zai (zaa zaz nn_new_comps.1 nn_new_comps.2) zaV zad)
  zad))
  zad)) (fun _ _ => rfl))
  (zab (zc2 ⟨_, zaz⟩ (zae zbR (nfree zde) (zaa zaz nn_new_comps.1 nn_new_comps.2) (fun _ _ _ => rfl)))
  (zab (zae zaJ (nfree zcC) (zag (zaa zbf nn_initial_slashes.1 nn_initial_slashes.2) (ziJ rfl rfl (by decide) (zaa zcR nn_sep.1 nn_sep.2) (.cons (zaa zbR nn_comps.1 nn_comps.2) rfl .nil)) zaS) (fun _ _ _ => rfl))
  (zab (zat (zaE (.or (zaa zaJ nn_path.1 nn_path.2) (.one (zaa zcj nn_dot.1 nn_dot.2)))))
  zad))))))))))
noncomputable def sc_abspath : Sc := { kinds := [(PySem.Str.ofString "path", .local), (PySem.Str.ofString "fspath", .globalImplicit), (PySem.Str.ofString "isinstance", .globalImplicit), (PySem.Str.ofString "bytes", .globalImplicit), (PySem.Str.ofString "join", .globalImplicit), (PySem.Str.ofString "_wall", .globalImplicit), (PySem.Str.ofString "normpath", .globalImplicit)], vars := [(PySem.Str.ofString "path", 0)] }
theorem zci  : sc_abspath.vars.lookup (PySem.Str.ofString "path") = some 0 := rfl
theorem zgc  : sc_abspath.kinds.lookup (PySem.Str.ofString "fspath") = some .globalImplicit := rfl
theorem zhi  : sc_abspath.kinds.lookup (PySem.Str.ofString "path") = some .local := rfl
theorem zgU  : sc_abspath.kinds.lookup (PySem.Str.ofString "bytes") = some .globalImplicit := rfl
theorem zev  : sc_abspath.kinds.lookup (PySem.Str.ofString "isinstance") = some .globalImplicit := rfl
theorem zfa  : sc_abspath.kinds.lookup (PySem.Str.ofString "normpath") = some .globalImplicit := rfl
theorem zjh {cx : XCx} (N : GN cx fs10 bs10) : SoundSs cx sc_abspath (nthBody PySem.Challenge.pw_dn0069_10 20) s_abspath := by
  unfold s_abspath
  exact (zab (zae zci (nfree zhi) (zan zgc (N.f _ 2 (.tail _ (.tail _ (.head _)))) rfl (.cons (zaa zci nn_path.1 nn_path.2) rfl .nil)) (fun _ _ _ => rfl))
  (zab (zai (zao zev (N.b _ (.tail _ (.tail _ (.tail _ (.tail _ (.tail _ (.tail _ (.tail _ (.head _))))))))) (by decide) rfl (.builtin _) rfl (.cons (zaa zci nn_path.1 nn_path.2) rfl (.cons (zbj zgU (N.b _ (.tail _ (.head _))) (by decide) rfl rfl) rfl .nil)) zc5) zaV (zab (zai (zbK (zfR rfl rfl (by decide) (zaa zci nn_path.1 nn_path.2) (.cons (zac rfl) rfl .nil))) zaV zad)
  zad))
  (zab (zat (zan zfa (N.f _ 9 (.tail _ (.tail _ (.tail _ (.tail _ (.tail _ (.tail _ (.tail _ (.head _))))))))) rfl (.cons (zaa zci nn_path.1 nn_path.2) rfl .nil)))
  zad)))
noncomputable def sc_relpath : Sc := { kinds := [(PySem.Str.ofString "path", .local), (PySem.Str.ofString "start", .local), (PySem.Str.ofString "curdir", .local), (PySem.Str.ofString "sep", .local), (PySem.Str.ofString "pardir", .local), (PySem.Str.ofString "start_tail", .local), (PySem.Str.ofString "path_tail", .local), (PySem.Str.ofString "start_list", .local), (PySem.Str.ofString "path_list", .local), (PySem.Str.ofString "i", .local), (PySem.Str.ofString "rel_list", .local), (PySem.Str.ofString "fspath", .globalImplicit), (PySem.Str.ofString "ValueError", .globalImplicit), (PySem.Str.ofString "isinstance", .globalImplicit), (PySem.Str.ofString "bytes", .globalImplicit), (PySem.Str.ofString "abspath", .globalImplicit), (PySem.Str.ofString "len", .globalImplicit), (PySem.Str.ofString "commonprefix", .globalImplicit), (PySem.Str.ofString "TypeError", .globalImplicit), (PySem.Str.ofString "AttributeError", .globalImplicit), (PySem.Str.ofString "BytesWarning", .globalImplicit), (PySem.Str.ofString "DeprecationWarning", .globalImplicit), (PySem.Str.ofString "_check_arg_types", .globalImplicit)], vars := [(PySem.Str.ofString "path", 0), (PySem.Str.ofString "start", 1), (PySem.Str.ofString "curdir", 2), (PySem.Str.ofString "sep", 3), (PySem.Str.ofString "pardir", 4), (PySem.Str.ofString "start_tail", 5), (PySem.Str.ofString "path_tail", 6), (PySem.Str.ofString "start_list", 7), (PySem.Str.ofString "path_list", 8), (PySem.Str.ofString "i", 9), (PySem.Str.ofString "rel_list", 10)] }
theorem zch  : sc_relpath.vars.lookup (PySem.Str.ofString "path") = some 0 := rfl
theorem zdX  : sc_relpath.kinds.lookup (PySem.Str.ofString "fspath") = some .globalImplicit := rfl
theorem zhe  : sc_relpath.kinds.lookup (PySem.Str.ofString "path") = some .local := rfl
theorem zgP  : sc_relpath.kinds.lookup (PySem.Str.ofString "bytes") = some .globalImplicit := rfl
theorem zer  : sc_relpath.kinds.lookup (PySem.Str.ofString "isinstance") = some .globalImplicit := rfl
theorem zcQ  : sc_relpath.vars.lookup (PySem.Str.ofString "curdir") = some 2 := rfl
theorem zf1  : sc_relpath.kinds.lookup (PySem.Str.ofString "curdir") = some .local := rfl
theorem zb3  : sc_relpath.vars.lookup (PySem.Str.ofString "sep") = some 3 := rfl
theorem zh5  : sc_relpath.kinds.lookup (PySem.Str.ofString "sep") = some .local := rfl
theorem zdR  : sc_relpath.vars.lookup (PySem.Str.ofString "pardir") = some 4 := rfl
theorem zf0  : sc_relpath.kinds.lookup (PySem.Str.ofString "pardir") = some .local := rfl
theorem zbY  : sc_relpath.vars.lookup (PySem.Str.ofString "start") = some 1 := rfl
theorem zd7  : sc_relpath.kinds.lookup (PySem.Str.ofString "start") = some .local := rfl
theorem zdA  : sc_relpath.kinds.lookup (PySem.Str.ofString "abspath") = some .globalImplicit := rfl
theorem zcc  : sc_relpath.vars.lookup (PySem.Str.ofString "start_tail") = some 5 := rfl
theorem zep  : sc_relpath.kinds.lookup (PySem.Str.ofString "start_tail") = some .local := rfl
theorem zcm  : sc_relpath.vars.lookup (PySem.Str.ofString "path_tail") = some 6 := rfl
theorem zeI  : sc_relpath.kinds.lookup (PySem.Str.ofString "path_tail") = some .local := rfl
theorem zcd  : sc_relpath.vars.lookup (PySem.Str.ofString "start_list") = some 7 := rfl
theorem zeq  : sc_relpath.kinds.lookup (PySem.Str.ofString "start_list") = some .local := rfl
theorem zcn  : sc_relpath.vars.lookup (PySem.Str.ofString "path_list") = some 8 := rfl
theorem zeJ  : sc_relpath.kinds.lookup (PySem.Str.ofString "path_list") = some .local := rfl
theorem zd0  : sc_relpath.kinds.lookup (PySem.Str.ofString "commonprefix") = some .globalImplicit := rfl
theorem ze4  : sc_relpath.kinds.lookup (PySem.Str.ofString "len") = some .globalImplicit := rfl
theorem zeB  : sc_relpath.vars.lookup (PySem.Str.ofString "i") = some 9 := rfl
theorem zjv  : sc_relpath.kinds.lookup (PySem.Str.ofString "i") = some .local := rfl
theorem zcu  : sc_relpath.vars.lookup (PySem.Str.ofString "rel_list") = some 10 := rfl
theorem ze3  : sc_relpath.kinds.lookup (PySem.Str.ofString "rel_list") = some .local := rfl
theorem zjd {cx : XCx} (N : GN cx fs10 bs10) : SoundSs cx sc_relpath (nthBody PySem.Challenge.pw_dn0069_10 21) s_relpath := by
  unfold s_relpath
  exact (zab (zae zch (nfree zhe) (zan zdX (N.f _ 2 (.tail _ (.tail _ (.head _)))) rfl (.cons (zaa zch nn_path.1 nn_path.2) rfl .nil)) (fun _ _ _ => rfl))
  (zab (zai (zbK (zaa zch nn_path.1 nn_path.2)) zaV zad)
  (zab (zai (zao zer (N.b _ (.tail _ (.tail _ (.tail _ (.tail _ (.tail _ (.tail _ (.tail _ (.head _))))))))) (by decide) rfl (.builtin _) rfl (.cons (zaa zch nn_path.1 nn_path.2) rfl (.cons (zbj zgP (N.b _ (.tail _ (.head _))) (by decide) rfl rfl) rfl .nil)) zc5) zaV (zab (zae zcQ (nfree zf1) (zac rfl) (fun _ _ _ => rfl))
  (zab (zae zb3 (nfree zh5) (zac rfl) (fun _ _ _ => rfl))
  (zab (zae zdR (nfree zf0) (zac rfl) (fun _ _ _ => rfl))
  zad))))
  (zab (zai (zaf (zaa zbY nn_start.1 nn_start.2) (zac rfl) op_is rfl) (zab (zae zbY (nfree zd7) (zaa zcQ nn_curdir.1 nn_curdir.2) (fun _ _ _ => rfl))
  zad) (zab (zae zbY (nfree zd7) (zan zdX (N.f _ 2 (.tail _ (.tail _ (.head _)))) rfl (.cons (zaa zbY nn_start.1 nn_start.2) rfl .nil)) (fun _ _ _ => rfl))
  zad))
  (zab (zhv (zab (zae zcc (nfree zep) (zj7 rfl rfl (by decide) (zan zdA (N.f _ 10 (.tail _ (.tail _ (.tail _ (.tail _ (.tail _ (.tail _ (.tail _ (.tail _ (.head _)))))))))) rfl (.cons (zaa zbY nn_start.1 nn_start.2) rfl .nil)) (.cons (zaa zb3 nn_sep.1 nn_sep.2) rfl .nil)) (fun _ _ _ => rfl))
  (zab (zae zcm (nfree zeI) (zj7 rfl rfl (by decide) (zan zdA (N.f _ 10 (.tail _ (.tail _ (.tail _ (.tail _ (.tail _ (.tail _ (.tail _ (.tail _ (.head _)))))))))) rfl (.cons (zaa zch nn_path.1 nn_path.2) rfl .nil)) (.cons (zaa zb3 nn_sep.1 nn_sep.2) rfl .nil)) (fun _ _ _ => rfl))
  (zab (zae zcd (nfree zeq) (zcL (zaa zcc nn_start_tail.1 nn_start_tail.2) (zh2 rfl rfl (by decide) (zaa zcc nn_start_tail.1 nn_start_tail.2) (.cons (zaa zb3 nn_sep.1 nn_sep.2) rfl .nil)) (zak .nil)) (fun _ _ _ => rfl))
  (zab (zae zcn (nfree zeJ) (zcL (zaa zcm nn_path_tail.1 nn_path_tail.2) (zh2 rfl rfl (by decide) (zaa zcm nn_path_tail.1 nn_path_tail.2) (.cons (zaa zb3 nn_sep.1 nn_sep.2) rfl .nil)) (zak .nil)) (fun _ _ _ => rfl))
  (zab (zae zeB (nfree zjv) (zao ze4 (N.b _ (.tail _ (.tail _ (.tail _ (.tail _ (.head _)))))) (by decide) rfl (.builtin _) rfl (.cons (zan zd0 (N.f _ 12 (.tail _ (.tail _ (.tail _ (.tail _ (.tail _ (.tail _ (.tail _ (.tail _ (.tail _ (.tail _ (.head _)))))))))))) rfl (.cons (zak (.cons (zaa zcd nn_start_list.1 nn_start_list.2) rfl (.cons (zaa zcn nn_path_list.1 nn_path_list.2) rfl .nil))) rfl .nil)) rfl .nil) zc4) (fun _ _ _ => rfl))
  (zab (zae zcu (nfree ze3) (zag (zag (zak (.cons (zaa zdR nn_pardir.1 nn_pardir.2) rfl .nil)) (zag (zao ze4 (N.b _ (.tail _ (.tail _ (.tail _ (.tail _ (.head _)))))) (by decide) rfl (.builtin _) rfl (.cons (zaa zcd nn_start_list.1 nn_start_list.2) rfl .nil) zc4) (zaa zeB nn_i.1 nn_i.2) zhA) zm8) (zax (zaa zcn nn_path_list.1 nn_path_list.2) (.yes (zaa zeB nn_i.1 nn_i.2)) .no) zaS) (fun _ _ _ => rfl))
  (zab (zai (zbK (zaa zcu nn_rel_list.1 nn_rel_list.2)) (zab (zat (zaa zcQ nn_curdir.1 nn_curdir.2))
  zad) zad)
  (zab (zat (ziJ rfl rfl (by decide) (zaa zb3 nn_sep.1 nn_sep.2) (.cons (zaa zcu nn_rel_list.1 nn_rel_list.2) rfl .nil)))
  zad)))))))))
  zad)))))
noncomputable def sc_commonprefix : Sc := { kinds := [(PySem.Str.ofString "m", .local), (PySem.Str.ofString "s1", .local), (PySem.Str.ofString "s2", .local), (PySem.Str.ofString "i", .local), (PySem.Str.ofString "c", .local), (PySem.Str.ofString "isinstance", .globalImplicit), (PySem.Str.ofString "list", .globalImplicit), (PySem.Str.ofString "tuple", .globalImplicit), (PySem.Str.ofString "map", .globalImplicit), (PySem.Str.ofString "fspath", .globalImplicit), (PySem.Str.ofString "min", .globalImplicit), (PySem.Str.ofString "max", .globalImplicit), (PySem.Str.ofString "enumerate", .globalImplicit)], vars := [(PySem.Str.ofString "m", 0), (PySem.Str.ofString "s1", 1), (PySem.Str.ofString "s2", 2), (PySem.Str.ofString "i", 3), (PySem.Str.ofString "c", 4)] }
theorem zck  : sc_commonprefix.vars.lookup (PySem.Str.ofString "m") = some 0 := rfl
theorem zeu  : sc_commonprefix.kinds.lookup (PySem.Str.ofString "tuple") = some .globalImplicit := rfl
theorem zeO  : sc_commonprefix.kinds.lookup (PySem.Str.ofString "list") = some .globalImplicit := rfl
theorem zdv  : sc_commonprefix.kinds.lookup (PySem.Str.ofString "isinstance") = some .globalImplicit := rfl
theorem ze8  : sc_commonprefix.kinds.lookup (PySem.Str.ofString "min") = some .globalImplicit := rfl
theorem zb5  : sc_commonprefix.vars.lookup (PySem.Str.ofString "s1") = some 1 := rfl
theorem zfH  : sc_commonprefix.kinds.lookup (PySem.Str.ofString "s1") = some .local := rfl
theorem ze9  : sc_commonprefix.kinds.lookup (PySem.Str.ofString "max") = some .globalImplicit := rfl
theorem zdx  : sc_commonprefix.vars.lookup (PySem.Str.ofString "s2") = some 2 := rfl
theorem zfG  : sc_commonprefix.kinds.lookup (PySem.Str.ofString "s2") = some .local := rfl
theorem zdW  : sc_commonprefix.vars.lookup (PySem.Str.ofString "c") = some 4 := rfl
theorem zcT  : sc_commonprefix.vars.lookup (PySem.Str.ofString "i") = some 3 := rfl
theorem zdB  : sc_commonprefix.kinds.lookup (PySem.Str.ofString "enumerate") = some .globalImplicit := rfl
theorem zga  : sc_commonprefix.kinds.lookup (PySem.Str.ofString "i") = some .local := rfl
theorem zgb  : sc_commonprefix.kinds.lookup (PySem.Str.ofString "c") = some .local := rfl
theorem zfZ {cx : XCx} (N : GN cx fs10 bs10) : SoundSs cx sc_commonprefix (nthBody PySem.Challenge.pw_dn0069_10 12) s_commonprefix := by
  unfold s_commonprefix
  exact (zab (zai (zbK (zaa zck nn_m.1 nn_m.2)) (zab (zat (zac rfl))
  zad) zad)
  (zab (zai (zbK (zao zdv (N.b _ (.tail _ (.tail _ (.tail _ (.tail _ (.tail _ (.tail _ (.tail _ (.head _))))))))) (by decide) rfl (.builtin _) rfl (.cons (zah (zaa zck nn_m.1 nn_m.2) (zac rfl)) rfl (.cons (zay (.cons (zbj zeO (N.b _ (.tail _ (.tail _ (.head _)))) (by decide) rfl rfl) rfl (.cons (zbj zeu (N.b _ (.tail _ (.tail _ (.tail _ (.head _))))) (by decide) rfl rfl) rfl .nil))) rfl .nil)) zc5)) zaV zad)
  (zab (zae zb5 (nfree zfH) (zao ze8 (N.b _ (.tail _ (.tail _ (.tail _ (.tail _ (.tail _ (.tail _ (.tail _ (.tail _ (.tail _ (.tail _ (.tail _ (.head _))))))))))))) (by decide) rfl (.builtin _) rfl (.cons (zaa zck nn_m.1 nn_m.2) rfl .nil) op_min) (fun _ _ _ => rfl))
  (zab (zae zdx (nfree zfG) (zao ze9 (N.b _ (.tail _ (.tail _ (.tail _ (.tail _ (.tail _ (.tail _ (.tail _ (.tail _ (.tail _ (.tail _ (.tail _ (.tail _ (.head _)))))))))))))) (by decide) rfl (.builtin _) rfl (.cons (zaa zck nn_m.1 nn_m.2) rfl .nil) op_max) (fun _ _ _ => rfl))
  (zab (zg9 zdB (N.b _ (.tail _ (.tail _ (.tail _ (.tail _ (.tail _ (.tail _ (.tail _ (.tail _ (.tail _ (.tail _ (.tail _ (.tail _ (.tail _ (.tail _ (.tail _ (.head _))))))))))))))))) zcT zdW (nfree zga) (nfree zgb) (zaa zb5 nn_s1.1 nn_s1.2) rfl (zab (zai (zaf (zaa zdW nn_c.1 nn_c.2) (zah (zaa zdx nn_s2.1 nn_s2.2) (zaa zcT nn_i.1 nn_i.2)) op_ne rfl) (zab (zat (zax (zaa zb5 nn_s1.1 nn_s1.2) .no (.yes (zaa zcT nn_i.1 nn_i.2))))
  zad) zad)
  zad) (fun _ _ => rfl))
  (zab (zat (zaa zb5 nn_s1.1 nn_s1.2))
  zad))))))
noncomputable def sc_law_one : Sc := { kinds := [(PySem.Str.ofString "part", .local), (PySem.Str.ofString "sign", .local), (PySem.Str.ofString "body", .local), (PySem.Str.ofString "barred", .local), (PySem.Str.ofString "k", .local), (PySem.Str.ofString "found", .local), (PySem.Str.ofString "low", .local), (PySem.Str.ofString "high", .local), (PySem.Str.ofString "len", .globalImplicit)], vars := [(PySem.Str.ofString "part", 0), (PySem.Str.ofString "sign", 1), (PySem.Str.ofString "body", 2), (PySem.Str.ofString "barred", 3), (PySem.Str.ofString "k", 4), (PySem.Str.ofString "found", 5), (PySem.Str.ofString "low", 6), (PySem.Str.ofString "high", 7)] }
theorem zbM  : sc_law_one.vars.lookup (PySem.Str.ofString "part") = some 0 := rfl
theorem zdk  : sc_law_one.vars.lookup (PySem.Str.ofString "sign") = some 1 := rfl
theorem za6  : sc_law_one.vars.lookup (PySem.Str.ofString "body") = some 2 := rfl
theorem zhf  : sc_law_one.kinds.lookup (PySem.Str.ofString "body") = some .local := rfl
theorem zcS  : sc_law_one.vars.lookup (PySem.Str.ofString "barred") = some 3 := rfl
theorem zf6  : sc_law_one.kinds.lookup (PySem.Str.ofString "barred") = some .local := rfl
theorem zaF  : sc_law_one.vars.lookup (PySem.Str.ofString "k") = some 4 := rfl
theorem zcE  : sc_law_one.kinds.lookup (PySem.Str.ofString "k") = some .local := rfl
theorem zcY  : sc_law_one.vars.lookup (PySem.Str.ofString "found") = some 5 := rfl
theorem zd9  : sc_law_one.kinds.lookup (PySem.Str.ofString "found") = some .local := rfl
theorem ze6  : sc_law_one.kinds.lookup (PySem.Str.ofString "len") = some .globalImplicit := rfl
theorem zdE  : sc_law_one.vars.lookup (PySem.Str.ofString "low") = some 6 := rfl
theorem zh8  : sc_law_one.kinds.lookup (PySem.Str.ofString "low") = some .local := rfl
theorem zdl  : sc_law_one.vars.lookup (PySem.Str.ofString "high") = some 7 := rfl
theorem zez  : sc_law_one.kinds.lookup (PySem.Str.ofString "high") = some .local := rfl
theorem zje {cx : XCx} (N : GN cx fs10 bs10) : SoundSs cx sc_law_one (nthBody PySem.Challenge.pw_dn0069_10 29) s_law_one := by
  unfold s_law_one
  exact (zab (zai (zaE (.or (zaf (zaa zbM nn_part.1 nn_part.2) (zac rfl) op_eq rfl) (.one (zaf (zaa zbM nn_part.1 nn_part.2) (zac (by kernel_rfl)) op_eq rfl)))) (zab (zat (zaf (zaa zbM nn_part.1 nn_part.2) (zac rfl) op_eq rfl))
  zad) zad)
  (zab (zai (zaf (zah (zaa zbM nn_part.1 nn_part.2) (zac rfl)) (zac rfl) op_ne rfl) (zab (zat (zaf (zah (zaa zbM nn_part.1 nn_part.2) (zdb (zac rfl) zfO (fun h => nomatch h))) (zaa zdk nn_sign.1 nn_sign.2) op_eq rfl))
  zad) zad)
  (zab (zae za6 (nfree zhf) (zax (zaa zbM nn_part.1 nn_part.2) (.yes (zac rfl)) (.yes (zdb (zac rfl) zfO (fun h => nomatch h)))) (fun _ _ _ => rfl))
  (zab (zae zcS (nfree zf6) (zaf (zah (zaa za6 nn_body.1 nn_body.2) (zac rfl)) (zac rfl) op_eq rfl) (fun _ _ _ => rfl))
  (zab (zae zaF (nfree zcE) (zcL (zaa zcS nn_barred.1 nn_barred.2) (zac rfl) (zac rfl)) (fun _ _ _ => rfl))
  (zab (zae zcY (nfree zd9) (zac rfl) (fun _ _ _ => rfl))
  (zab (zcM (zaf (zaa zaF nn_k.1 nn_k.2) (zao ze6 (N.b _ (.tail _ (.tail _ (.tail _ (.tail _ (.head _)))))) (by decide) rfl (.builtin _) rfl (.cons (zaa za6 nn_body.1 nn_body.2) rfl .nil) zc4) op_lt rfl) (zab (zai (zaf (zah (zaa za6 nn_body.1 nn_body.2) (zaa zaF nn_k.1 nn_k.2)) (zac rfl) op_eq rfl) (zab (zae zaF (nfree zcE) (zag (zaa zaF nn_k.1 nn_k.2) (zac rfl) zaS) (fun _ _ _ => rfl))
  zad) zad)
  (zab (zae zdE (nfree zh8) (zah (zaa za6 nn_body.1 nn_body.2) (zaa zaF nn_k.1 nn_k.2)) (fun _ _ _ => rfl))
  (zab (zae zdl (nfree zez) (zaa zdE nn_low.1 nn_low.2) (fun _ _ _ => rfl))
  (zab (zae zaF (nfree zcE) (zag (zaa zaF nn_k.1 nn_k.2) (zac rfl) zaS) (fun _ _ _ => rfl))
  (zab (zai (zaE (.and (zaf (zag (zaa zaF nn_k.1 nn_k.2) (zac rfl) zaS) (zao ze6 (N.b _ (.tail _ (.tail _ (.tail _ (.tail _ (.head _)))))) (by decide) rfl (.builtin _) rfl (.cons (zaa za6 nn_body.1 nn_body.2) rfl .nil) zc4) op_lt rfl) (.one (zaf (zah (zaa za6 nn_body.1 nn_body.2) (zaa zaF nn_k.1 nn_k.2)) (zac rfl) op_eq rfl)))) (zab (zae zaF (nfree zcE) (zag (zaa zaF nn_k.1 nn_k.2) (zac rfl) zaS) (fun _ _ _ => rfl))
  (zab (zai (zaf (zah (zaa za6 nn_body.1 nn_body.2) (zaa zaF nn_k.1 nn_k.2)) (zac rfl) op_eq rfl) (zab (zae zaF (nfree zcE) (zag (zaa zaF nn_k.1 nn_k.2) (zac rfl) zaS) (fun _ _ _ => rfl))
  zad) zad)
  (zab (zae zdl (nfree zez) (zah (zaa za6 nn_body.1 nn_body.2) (zaa zaF nn_k.1 nn_k.2)) (fun _ _ _ => rfl))
  (zab (zae zaF (nfree zcE) (zag (zaa zaF nn_k.1 nn_k.2) (zac rfl) zaS) (fun _ _ _ => rfl))
  zad)))) zad)
  (zab (zai (zaE (.and (zaf (zaa zdE nn_low.1 nn_low.2) (zaa zdk nn_sign.1 nn_sign.2) op_le rfl) (.one (zaf (zaa zdk nn_sign.1 nn_sign.2) (zaa zdl nn_high.1 nn_high.2) op_le rfl)))) (zab (zae zcY (nfree zd9) (zac rfl) (fun _ _ _ => rfl))
  zad) zad)
  zad)))))))
  (zab (zat (zaf (zaa zcY nn_found.1 nn_found.2) (zaa zcS nn_barred.1 nn_barred.2) op_ne rfl))
  zad))))))))
noncomputable def sc_law_takes : Sc := { kinds := [(PySem.Str.ofString "parts", .local), (PySem.Str.ofString "star", .local), (PySem.Str.ofString "name", .cell), (PySem.Str.ofString "at", .local), (PySem.Str.ofString "part", .cell), (PySem.Str.ofString "list", .globalImplicit), (PySem.Str.ofString "range", .globalImplicit), (PySem.Str.ofString "len", .globalImplicit)], vars := [(PySem.Str.ofString "parts", 0), (PySem.Str.ofString "star", 1), (PySem.Str.ofString "name", 2), (PySem.Str.ofString "at", 3), (PySem.Str.ofString "part", 4)] }
theorem zbA  : sc_law_takes.vars.lookup (PySem.Str.ofString "at") = some 3 := rfl
theorem zcJ  : sc_law_takes.kinds.lookup (PySem.Str.ofString "at") = some .local := rfl
theorem zfi  : sc_law_takes.vars.lookup (PySem.Str.ofString "parts") = some 0 := rfl
theorem zdS  : sc_law_takes.vars.lookup (PySem.Str.ofString "part") = some 4 := rfl
theorem zfY  : sc_law_takes.vars.lookup (PySem.Str.ofString "star") = some 1 := rfl
theorem zdT  : sc_law_takes.vars.lookup (PySem.Str.ofString "name") = some 2 := rfl
theorem zd8  : sc_law_takes.kinds.lookup (PySem.Str.ofString "len") = some .globalImplicit := rfl
theorem zf5  : sc_law_takes.kinds.lookup (PySem.Str.ofString "list") = some .globalImplicit := rfl
theorem zfB  : sc_law_takes.kinds.lookup (PySem.Str.ofString "range") = some .globalImplicit := rfl
theorem zf4  : sc_law_takes.kinds.lookup (PySem.Str.ofString "part") = some .cell := rfl
theorem zhX {cx : XCx} (N : GN cx fs10 bs10) : SoundSs cx sc_law_takes (nthBody PySem.Challenge.pw_dn0069_10 30) s_law_takes := by
  unfold s_law_takes
  exact (zab (zae zbA (nfree zcJ) (zak (.cons (zac rfl) rfl .nil)) (fun _ _ _ => rfl))
  (zab (zb6 zdS (nfree zf4) (zbk (zaa zfi nn_parts.1 nn_parts.2)) (zab (zai (zaf (zaa zdS nn_part.1 nn_part.2) (zaa zfY nn_star.1 nn_star.2) op_is rfl) (zab (zae zbA (nfree zcJ) (zcL (zaa zbA nn_at.1 nn_at.2) (zd5 zf5 (N.b _ (.tail _ (.tail _ (.head _)))) zfB (N.b _ (.tail _ (.tail _ (.tail _ (.tail _ (.tail _ (.tail _ (.tail _ (.tail _ (.tail _ (.tail _ (.head _)))))))))))) (.cons (zah (zaa zbA nn_at.1 nn_at.2) (zac rfl)) rfl (.cons (zag (zao zd8 (N.b _ (.tail _ (.tail _ (.tail _ (.tail _ (.head _)))))) (by decide) rfl (.builtin _) rfl (.cons (zaa zdT nn_name.1 nn_name.2) rfl .nil) zc4) (zac rfl) zaS) rfl .nil))) (zak .nil)) (fun _ _ _ => rfl))
  zad) (zab (zdm ⟨zda, zh0, (zbk (zaa zbA nn_at.1 nn_at.2)), zcy rfl, (zeW (zaE (.and (zaf (zaa rfl nn_p.1 nn_p.2) (zao rfl (N.b _ (.tail _ (.tail _ (.tail _ (.tail _ (.head _)))))) (by decide) rfl (.builtin _) rfl (.cons (zaa rfl nn_name.1 nn_name.2) rfl .nil) zc4) op_lt rfl) (.one (zan rfl (N.f _ 14 (.tail _ (.tail _ (.tail _ (.tail _ (.tail _ (.tail _ (.tail _ (.tail _ (.tail _ (.tail _ (.tail _ (.head _))))))))))))) rfl (.cons (zaa rfl nn_part.1 nn_part.2) rfl (.cons (zah (zaa rfl nn_name.1 nn_name.2) (zaa rfl nn_p.1 nn_p.2)) rfl .nil))))))), (zag (zaa rfl nn_p.1 nn_p.2) (zac rfl) zaS), fun _ _ => rfl⟩ zbA (nfree zcJ) (swapC zcJ rfl rfl))
  zad))
  zad) (fun _ _ => rfl))
  (zab (zat (zaf (zao zd8 (N.b _ (.tail _ (.tail _ (.tail _ (.tail _ (.head _)))))) (by decide) rfl (.builtin _) rfl (.cons (zaa zdT nn_name.1 nn_name.2) rfl .nil) zc4) (zaa zbA nn_at.1 nn_at.2) op_in rfl))
  zad)))
noncomputable def sc_law_dressed : Sc := { kinds := [(PySem.Str.ofString "code", .local), (PySem.Str.ofString "pieces", .local)], vars := [(PySem.Str.ofString "code", 0), (PySem.Str.ofString "pieces", 1)] }
theorem zcU  : sc_law_dressed.vars.lookup (PySem.Str.ofString "pieces") = some 1 := rfl
theorem zes  : sc_law_dressed.kinds.lookup (PySem.Str.ofString "pieces") = some .local := rfl
theorem zeS  : sc_law_dressed.vars.lookup (PySem.Str.ofString "code") = some 0 := rfl
theorem zgH {cx : XCx} (N : GN cx fs10 bs10) : SoundSs cx sc_law_dressed (nthBody PySem.Challenge.pw_dn0069_10 31) s_law_dressed := by
  unfold s_law_dressed
  refine zab ?_ ?_
  · refine zae ?_ ?_ ?_ ?_
    · exact zcU
    · exact (nfree zes)
    · exact (zay (.cons (zay (.cons (zac rfl) rfl (.cons (zak (.cons (zac rfl) rfl .nil)) rfl .nil))) rfl (.cons (zay (.cons (zac rfl) rfl (.cons (zak (.cons (zac rfl) rfl .nil)) rfl .nil))) rfl (.cons (zay (.cons (zac rfl) rfl (.cons (zak (.cons (zac rfl) rfl (.cons (zac rfl) rfl .nil))) rfl .nil))) rfl (.cons (zay (.cons (zac rfl) rfl (.cons (zak (.cons (zac rfl) rfl .nil)) rfl .nil))) rfl (.cons (zay (.cons (zac (by kernel_rfl)) rfl (.cons (zak (.cons (zac rfl) rfl (.cons (zac rfl) rfl .nil))) rfl .nil))) rfl (.cons (zay (.cons (zac rfl) rfl (.cons (zak (.cons (zac rfl) rfl (.cons (zac rfl) rfl .nil))) rfl .nil))) rfl (.cons (zay (.cons (zac (by kernel_rfl)) rfl (.cons (zak (.cons (zac rfl) rfl (.cons (zac rfl) rfl .nil))) rfl .nil))) rfl (.cons (zay (.cons (zac rfl) rfl (.cons (zak (.cons (zac rfl) rfl (.cons (zac rfl) rfl .nil))) rfl .nil))) rfl (.cons (zay (.cons (zac (by kernel_rfl)) rfl (.cons (zak (.cons (zac rfl) rfl .nil)) rfl .nil))) rfl (.cons (zay (.cons (zac (by kernel_rfl)) rfl (.cons (zak (.cons (zac rfl) rfl (.cons (zac rfl) rfl .nil))) rfl .nil))) rfl (.cons (zay (.cons (zac rfl) rfl (.cons (zak (.cons (zac rfl) rfl .nil)) rfl .nil))) rfl (.cons (zay (.cons (zac (by kernel_rfl)) rfl (.cons (zak (.cons (zac rfl) rfl (.cons (zac rfl) rfl .nil))) rfl .nil))) rfl (.cons (zay (.cons (zac rfl) rfl (.cons (zak (.cons (zac rfl) rfl (.cons (zac rfl) rfl (.cons (zac rfl) rfl .nil)))) rfl .nil))) rfl .nil))))))))))))))
    · exact (fun _ _ _ => by kernel_rfl)
  · exact (zab (zat (zah (zaa zcU nn_pieces.1 nn_pieces.2) (zag (zaa zeS nn_code.1 nn_code.2) (zac rfl) zjZ)))
  zad)
noncomputable def sc_law_meant : Sc := { kinds := [(PySem.Str.ofString "items", .local), (PySem.Str.ofString "name", .cell), (PySem.Str.ofString "at", .local), (PySem.Str.ofString "item", .local), (PySem.Str.ofString "signs", .cell), (PySem.Str.ofString "list", .globalImplicit), (PySem.Str.ofString "range", .globalImplicit), (PySem.Str.ofString "len", .globalImplicit)], vars := [(PySem.Str.ofString "items", 0), (PySem.Str.ofString "name", 1), (PySem.Str.ofString "at", 2), (PySem.Str.ofString "item", 3), (PySem.Str.ofString "signs", 4)] }
theorem zbB  : sc_law_meant.vars.lookup (PySem.Str.ofString "at") = some 2 := rfl
theorem zcK  : sc_law_meant.kinds.lookup (PySem.Str.ofString "at") = some .local := rfl
theorem zfm  : sc_law_meant.vars.lookup (PySem.Str.ofString "items") = some 0 := rfl
theorem zbJ  : sc_law_meant.vars.lookup (PySem.Str.ofString "item") = some 3 := rfl
theorem zdU  : sc_law_meant.vars.lookup (PySem.Str.ofString "name") = some 1 := rfl
theorem zea  : sc_law_meant.kinds.lookup (PySem.Str.ofString "len") = some .globalImplicit := rfl
theorem zf7  : sc_law_meant.kinds.lookup (PySem.Str.ofString "list") = some .globalImplicit := rfl
theorem zfD  : sc_law_meant.kinds.lookup (PySem.Str.ofString "range") = some .globalImplicit := rfl
theorem zfl  : sc_law_meant.vars.lookup (PySem.Str.ofString "signs") = some 4 := rfl
theorem zfC  : sc_law_meant.kinds.lookup (PySem.Str.ofString "signs") = some .cell := rfl
theorem zf8  : sc_law_meant.kinds.lookup (PySem.Str.ofString "item") = some .local := rfl
theorem zhY {cx : XCx} (N : GN cx fs10 bs10) : SoundSs cx sc_law_meant (nthBody PySem.Challenge.pw_dn0069_10 32) s_law_meant := by
  unfold s_law_meant
  exact (zab (zae zbB (nfree zcK) (zak (.cons (zac rfl) rfl .nil)) (fun _ _ _ => rfl))
  (zab (zb6 zbJ (nfree zf8) (zbk (zaa zfm nn_items.1 nn_items.2)) (zab (zai (zaf (zaa zbJ nn_item.1 nn_item.2) (zac rfl) op_is rfl) (zab (zae zbB (nfree zcK) (zcL (zaa zbB nn_at.1 nn_at.2) (zd5 zf7 (N.b _ (.tail _ (.tail _ (.head _)))) zfD (N.b _ (.tail _ (.tail _ (.tail _ (.tail _ (.tail _ (.tail _ (.tail _ (.tail _ (.tail _ (.tail _ (.head _)))))))))))) (.cons (zah (zaa zbB nn_at.1 nn_at.2) (zac rfl)) rfl (.cons (zag (zao zea (N.b _ (.tail _ (.tail _ (.tail _ (.tail _ (.head _)))))) (by decide) rfl (.builtin _) rfl (.cons (zaa zdU nn_name.1 nn_name.2) rfl .nil) zc4) (zac rfl) zaS) rfl .nil))) (zak .nil)) (fun _ _ _ => rfl))
  zad) (zab (zae zfl (nfree zfC) (zcL (zaf (zaa zbJ nn_item.1 nn_item.2) (zay (.cons (zac rfl) rfl (.cons (zac rfl) rfl (.cons (zac rfl) rfl .nil)))) op_in rfl) (zag (zaa zbJ nn_item.1 nn_item.2) (zac rfl) zaS) (zaa zbJ nn_item.1 nn_item.2)) (fun _ _ _ => rfl))
  (zab (zdm ⟨zda, zh0, (zbk (zaa zbB nn_at.1 nn_at.2)), zcy rfl, (zeW (zaE (.and (zaf (zaa rfl nn_p.1 nn_p.2) (zao rfl (N.b _ (.tail _ (.tail _ (.tail _ (.tail _ (.head _)))))) (by decide) rfl (.builtin _) rfl (.cons (zaa rfl nn_name.1 nn_name.2) rfl .nil) zc4) op_lt rfl) (.one (zaf (zah (zaa rfl nn_name.1 nn_name.2) (zaa rfl nn_p.1 nn_p.2)) (zaa rfl nn_signs.1 nn_signs.2) op_in rfl))))), (zag (zaa rfl nn_p.1 nn_p.2) (zac rfl) zaS), fun _ _ => rfl⟩ zbB (nfree zcK) (swapC zcK rfl rfl))
  zad)))
  zad) (fun _ _ => rfl))
  (zab (zat (zaf (zao zea (N.b _ (.tail _ (.tail _ (.tail _ (.tail _ (.head _)))))) (by decide) rfl (.builtin _) rfl (.cons (zaa zdU nn_name.1 nn_name.2) rfl .nil) zc4) (zaa zbB nn_at.1 nn_at.2) op_in rfl))
  zad)))
noncomputable def sc_law : Sc := { kinds := [(PySem.Str.ofString "script", .cell), (PySem.Str.ofString "star", .cell), (PySem.Str.ofString "k", .local), (PySem.Str.ofString "sums", .local), (PySem.Str.ofString "paths", .local), (PySem.Str.ofString "rises", .local), (PySem.Str.ofString "left", .local), (PySem.Str.ofString "path", .cell), (PySem.Str.ofString "step", .local), (PySem.Str.ofString "rise", .local), (PySem.Str.ofString "folder", .local), (PySem.Str.ofString "names", .cell), (PySem.Str.ofString "n", .local), (PySem.Str.ofString "first", .local), (PySem.Str.ofString "then", .local), (PySem.Str.ofString "between", .local), (PySem.Str.ofString "text", .local), (PySem.Str.ofString "means", .local), (PySem.Str.ofString "head", .local), (PySem.Str.ofString "tail", .local), (PySem.Str.ofString "items", .local), (PySem.Str.ofString "one", .cell), (PySem.Str.ofString "other", .cell), (PySem.Str.ofString "whole", .local), (PySem.Str.ofString "taken", .local), (PySem.Str.ofString "some", .local), (PySem.Str.ofString "range", .globalImplicit), (PySem.Str.ofString "join", .globalImplicit), (PySem.Str.ofString "len", .globalImplicit), (PySem.Str.ofString "dirname", .globalImplicit), (PySem.Str.ofString "relpath", .globalImplicit), (PySem.Str.ofString "_law_dressed", .globalImplicit), (PySem.Str.ofString "_translate", .globalImplicit), (PySem.Str.ofString "_law_takes", .globalImplicit), (PySem.Str.ofString "_law_meant", .globalImplicit)], vars := [(PySem.Str.ofString "script", 0), (PySem.Str.ofString "star", 1), (PySem.Str.ofString "k", 2), (PySem.Str.ofString "sums", 3), (PySem.Str.ofString "paths", 4), (PySem.Str.ofString "rises", 5), (PySem.Str.ofString "left", 6), (PySem.Str.ofString "path", 7), (PySem.Str.ofString "step", 8), (PySem.Str.ofString "rise", 9), (PySem.Str.ofString "folder", 10), (PySem.Str.ofString "names", 11), (PySem.Str.ofString "n", 12), (PySem.Str.ofString "first", 13), (PySem.Str.ofString "then", 14), (PySem.Str.ofString "between", 15), (PySem.Str.ofString "text", 16), (PySem.Str.ofString "means", 17), (PySem.Str.ofString "head", 18), (PySem.Str.ofString "tail", 19), (PySem.Str.ofString "items", 20), (PySem.Str.ofString "one", 21), (PySem.Str.ofString "other", 22), (PySem.Str.ofString "whole", 23), (PySem.Str.ofString "taken", 24), (PySem.Str.ofString "some", 25)] }
theorem zcD  : sc_law.kinds.lookup (PySem.Str.ofString "range") = some .globalImplicit := rfl
theorem zfk  : sc_law.vars.lookup (PySem.Str.ofString "sums") = some 3 := rfl
theorem zhB  : sc_law.kinds.lookup (PySem.Str.ofString "sums") = some .local := rfl
theorem zdD  : sc_law.vars.lookup (PySem.Str.ofString "paths") = some 4 := rfl
theorem zjz  : sc_law.kinds.lookup (PySem.Str.ofString "paths") = some .local := rfl
theorem zdC  : sc_law.vars.lookup (PySem.Str.ofString "rises") = some 5 := rfl
theorem zjy  : sc_law.kinds.lookup (PySem.Str.ofString "rises") = some .local := rfl
theorem zfn  : sc_law.vars.lookup (PySem.Str.ofString "k") = some 2 := rfl
theorem zbH  : sc_law.vars.lookup (PySem.Str.ofString "left") = some 6 := rfl
theorem zfE  : sc_law.kinds.lookup (PySem.Str.ofString "left") = some .local := rfl
theorem zcA  : sc_law.vars.lookup (PySem.Str.ofString "path") = some 7 := rfl
theorem zhD  : sc_law.kinds.lookup (PySem.Str.ofString "path") = some .cell := rfl
theorem zhE  : sc_law.kinds.lookup (PySem.Str.ofString "join") = some .globalImplicit := rfl
theorem zko  : sc_law.vars.lookup (PySem.Str.ofString "step") = some 8 := rfl
theorem zkM  : sc_law.kinds.lookup (PySem.Str.ofString "step") = some .local := rfl
theorem zb4  : sc_law.vars.lookup (PySem.Str.ofString "rise") = some 9 := rfl
theorem zkN  : sc_law.kinds.lookup (PySem.Str.ofString "rise") = some .local := rfl
theorem zcs  : sc_law.vars.lookup (PySem.Str.ofString "folder") = some 10 := rfl
theorem zfS  : sc_law.kinds.lookup (PySem.Str.ofString "folder") = some .local := rfl
theorem ziL  : sc_law.kinds.lookup (PySem.Str.ofString "len") = some .globalImplicit := rfl
theorem zh9  : sc_law.kinds.lookup (PySem.Str.ofString "dirname") = some .globalImplicit := rfl
theorem zh7  : sc_law.kinds.lookup (PySem.Str.ofString "relpath") = some .globalImplicit := rfl
theorem zgr  : sc_law.vars.lookup (PySem.Str.ofString "names") = some 11 := rfl
theorem zjB  : sc_law.kinds.lookup (PySem.Str.ofString "names") = some .cell := rfl
theorem zlK  : sc_law.kinds.lookup (PySem.Str.ofString "k") = some .local := rfl
theorem zb9  : sc_law.kinds.lookup (PySem.Str.ofString "_law_dressed") = some .globalImplicit := rfl
theorem zeD  : sc_law.vars.lookup (PySem.Str.ofString "first") = some 13 := rfl
theorem zjD  : sc_law.kinds.lookup (PySem.Str.ofString "first") = some .local := rfl
theorem zdw  : sc_law.vars.lookup (PySem.Str.ofString "then") = some 14 := rfl
theorem zkJ  : sc_law.kinds.lookup (PySem.Str.ofString "then") = some .local := rfl
theorem zdG  : sc_law.vars.lookup (PySem.Str.ofString "between") = some 15 := rfl
theorem zia  : sc_law.kinds.lookup (PySem.Str.ofString "between") = some .local := rfl
theorem zfo  : sc_law.vars.lookup (PySem.Str.ofString "head") = some 18 := rfl
theorem zkO  : sc_law.kinds.lookup (PySem.Str.ofString "head") = some .local := rfl
theorem zfj  : sc_law.vars.lookup (PySem.Str.ofString "tail") = some 19 := rfl
theorem zkL  : sc_law.kinds.lookup (PySem.Str.ofString "tail") = some .local := rfl
theorem zdF  : sc_law.vars.lookup (PySem.Str.ofString "items") = some 20 := rfl
theorem zgS  : sc_law.kinds.lookup (PySem.Str.ofString "items") = some .local := rfl
theorem zgs  : sc_law.vars.lookup (PySem.Str.ofString "means") = some 17 := rfl
theorem zkn  : sc_law.vars.lookup (PySem.Str.ofString "text") = some 16 := rfl
theorem zkK  : sc_law.kinds.lookup (PySem.Str.ofString "text") = some .local := rfl
theorem zjC  : sc_law.kinds.lookup (PySem.Str.ofString "means") = some .local := rfl
theorem zed  : sc_law.vars.lookup (PySem.Str.ofString "star") = some 1 := rfl
theorem zc6  : sc_law.kinds.lookup (PySem.Str.ofString "_translate") = some .globalImplicit := rfl
theorem zk9  : sc_law.vars.lookup (PySem.Str.ofString "one") = some 21 := rfl
theorem zlJ  : sc_law.kinds.lookup (PySem.Str.ofString "one") = some .cell := rfl
theorem zi4  : sc_law.vars.lookup (PySem.Str.ofString "other") = some 22 := rfl
theorem zjA  : sc_law.kinds.lookup (PySem.Str.ofString "other") = some .cell := rfl
theorem zgq  : sc_law.vars.lookup (PySem.Str.ofString "whole") = some 23 := rfl
theorem zjw  : sc_law.kinds.lookup (PySem.Str.ofString "whole") = some .local := rfl
theorem zhL  : sc_law.vars.lookup (PySem.Str.ofString "n") = some 12 := rfl
theorem zgQ  : sc_law.kinds.lookup (PySem.Str.ofString "_law_takes") = some .globalImplicit := rfl
theorem zeC  : sc_law.vars.lookup (PySem.Str.ofString "taken") = some 24 := rfl
theorem zjx  : sc_law.kinds.lookup (PySem.Str.ofString "taken") = some .local := rfl
theorem zho  : sc_law.vars.lookup (PySem.Str.ofString "some") = some 25 := rfl
theorem zhC  : sc_law.kinds.lookup (PySem.Str.ofString "some") = some .local := rfl
theorem zgR  : sc_law.kinds.lookup (PySem.Str.ofString "_law_meant") = some .globalImplicit := rfl
theorem k_law_n  : sc_law.kinds.lookup (PySem.Str.ofString "n") = some .local := rfl
theorem snd_law {cx : XCx} (N : GN cx fs10 bs10) : SoundSs cx sc_law ((nthBody PySem.Challenge.pw_dn0069_10 33).drop 1) s_law := by
  unfold s_law
  exact (zab (zdm ⟨zda, zh0, (zbZ zcD (N.b _ (.tail _ (.tail _ (.tail _ (.tail _ (.tail _ (.tail _ (.tail _ (.tail _ (.tail _ (.tail _ (.head _)))))))))))) (.cons (zac rfl) rfl .nil)), zcy rfl, zd3, (zao rfl (N.b _ (.tail _ (.tail _ (.tail _ (.tail _ (.tail _ (.head _))))))) (by decide) rfl (.builtin _) rfl (.cons (zao rfl (N.b _ (.tail _ (.tail _ (.tail _ (.tail _ (.tail _ (.tail _ (.head _)))))))) (by decide) rfl (.builtin _) rfl (.cons (ziy (zaa rfl nn_script.1 nn_script.2) (.yes (zaa rfl nn_k.1 nn_k.2)) .no (zac rfl)) rfl .nil) op_sum) rfl .nil) op_abs), fun _ _ => rfl⟩ zfk (nfree zhB) (swapC zhB rfl rfl))
  (zab (zbD zdD (nfree zjz) (zak .nil) (fun _ _ _ => rfl))
  (zab (zbD zdC (nfree zjy) (zak .nil) (fun _ _ _ => rfl))
  (zab (zb6 zfn (nfree zlK) (zbZ zcD (N.b _ (.tail _ (.tail _ (.tail _ (.tail _ (.tail _ (.tail _ (.tail _ (.tail _ (.tail _ (.tail _ (.head _)))))))))))) (.cons (zac rfl) rfl .nil)) (zab (zae zbH (nfree zfE) (zag (zah (zaa zfk nn_sums.1 nn_sums.2) (zaa zfn nn_k.1 nn_k.2)) (zah (zay (.cons (zac rfl) rfl (.cons (zac rfl) rfl (.cons (zac rfl) rfl (.cons (zac rfl) rfl .nil))))) (zaa zfn nn_k.1 nn_k.2)) zaS) (fun _ _ _ => rfl))
  (zab (zae zcA (nfree zhD) (zac rfl) (fun _ _ _ => rfl))
  (zab (zb6 zko (nfree zkM) (zbZ zcD (N.b _ (.tail _ (.tail _ (.tail _ (.tail _ (.tail _ (.tail _ (.tail _ (.tail _ (.tail _ (.tail _ (.head _)))))))))))) (.cons (zag (zac rfl) (zag (zaa zbH nn_left.1 nn_left.2) (zac rfl) zjZ) zaS) rfl .nil)) (zab (zae zbH (nfree zfE) (zag (zaa zbH nn_left.1 nn_left.2) (zac rfl) zj0) (fun _ _ _ => rfl))
  (zab (zae zcA (nfree zhD) (zan zhE (N.f _ 4 (.tail _ (.tail _ (.tail _ (.tail _ (.head _)))))) rfl (.cons (zaa zcA nn_path.1 nn_path.2) rfl (.cons (zah (zay (.cons (zac rfl) rfl (.cons (zac rfl) rfl (.cons (zac rfl) rfl (.cons (zac rfl) rfl .nil))))) (zag (zaa zbH nn_left.1 nn_left.2) (zac rfl) zjZ)) rfl .nil))) (fun _ _ _ => rfl))
  zad)) (fun _ _ => rfl))
  (zab (zbD zb4 (nfree zkN) (zak .nil) (fun _ _ _ => rfl))
  (zab (zae zcs (nfree zfS) (zaa zcA nn_path.1 nn_path.2) (fun _ _ _ => rfl))
  (zab (zcM (zaE (.and (zaf (zaa zcs nn_folder.1 nn_folder.2) (zac rfl) op_ne rfl) (.one (zaf (zao ziL (N.b _ (.tail _ (.tail _ (.tail _ (.tail _ (.head _)))))) (by decide) rfl (.builtin _) rfl (.cons (zaa zb4 nn_rise.1 nn_rise.2) rfl .nil) zc4) (zac rfl) op_lt rfl)))) (zab (zae zcs (nfree zfS) (zan zh9 (N.f _ 6 (.tail _ (.tail _ (.tail _ (.tail _ (.tail _ (.head _))))))) rfl (.cons (zaa zcs nn_folder.1 nn_folder.2) rfl .nil)) (fun _ _ _ => rfl))
  (zab (zb7 zb4 nn_rise.1 nn_rise.2 rfl (zay (.cons (zaa zcs nn_folder.1 nn_folder.2) rfl (.cons (zan zh7 (N.f _ 11 (.tail _ (.tail _ (.tail _ (.tail _ (.tail _ (.tail _ (.tail _ (.tail _ (.tail _ (.head _))))))))))) rfl (.cons (zaa zcA nn_path.1 nn_path.2) rfl (.cons (zaa zcs nn_folder.1 nn_folder.2) rfl .nil))) rfl .nil))) rfl)
  zad)))
  (zab (zae zgr (nfree zjB) (zh2 rfl rfl (by decide) (zaa zcA nn_path.1 nn_path.2) (.cons (zac rfl) rfl .nil)) (fun _ _ _ => rfl))
  (zab (zc2 ⟨_, zb4⟩ (zai (zaf (zdI ⟨zc1, zgu, (zbk (zaa zb4 nn_rise.1 nn_rise.2)), zcy rfl, zd3, (zaa rfl nn_folder.1 nn_folder.2), fun _ _ => rfl⟩) (zkw ⟨zda, zh0, (zbZ zcD (N.b _ (.tail _ (.tail _ (.tail _ (.tail _ (.tail _ (.tail _ (.tail _ (.tail _ (.tail _ (.tail _ (.head _)))))))))))) (.cons (zag (zao ziL (N.b _ (.tail _ (.tail _ (.tail _ (.tail _ (.head _)))))) (by decide) rfl (.builtin _) rfl (.cons (zaa zgr nn_names.1 nn_names.2) rfl .nil) zc4) (zac rfl) zhA) rfl (.cons (zac rfl) rfl (.cons (zdb (zac rfl) zfO (fun h => nomatch h)) rfl .nil)))), zcy rfl, zd3, (zaE (.or (ziJ rfl rfl (by decide) (zac rfl) (.cons (zax (zaa rfl nn_names.1 nn_names.2) .no (.yes (zaa rfl nn_n.1 nn_n.2))) rfl .nil)) (.one (zac rfl)))), fun _ _ => rfl⟩) op_ne rfl) (zab (zat (zac rfl))
  zad) zad))
  (zab (zc2 ⟨_, zb4⟩ (zai (zaf (zdI ⟨zc1, zgu, (zbk (zaa zb4 nn_rise.1 nn_rise.2)), zcy rfl, (zeW (zaf (zan rfl (N.f _ 4 (.tail _ (.tail _ (.tail _ (.tail _ (.head _)))))) rfl (.cons (zaa rfl nn_folder.1 nn_folder.2) rfl (.cons (zaa rfl nn_rest.1 nn_rest.2) rfl .nil))) (zaa rfl nn_path.1 nn_path.2) op_ne rfl)), (zac rfl), fun _ _ => rfl⟩) (zak .nil) op_ne rfl) (zab (zat (zac rfl))
  zad) zad))
  (zab (zb7 zdD nn_paths.1 nn_paths.2 rfl (zaa zcA nn_path.1 nn_path.2) rfl)
  (zab (zc2 ⟨_, zb4⟩ (zb7 zdC nn_rises.1 nn_rises.2 rfl (zaa zb4 nn_rise.1 nn_rise.2) rfl))
  zad))))))))))) (fun _ _ => rfl))
  (zab (zb6 zfn (nfree zlK) (zbZ zcD (N.b _ (.tail _ (.tail _ (.tail _ (.tail _ (.tail _ (.tail _ (.tail _ (.tail _ (.tail _ (.tail _ (.head _)))))))))))) (.cons (zac rfl) rfl .nil)) (zab (zae zbH (nfree zfE) (zag (zah (zaa zfk nn_sums.1 nn_sums.2) (zag (zac rfl) (zaa zfn nn_k.1 nn_k.2) zaS)) (zah (zay (.cons (zac rfl) rfl (.cons (zac rfl) rfl (.cons (zac rfl) rfl (.cons (zac rfl) rfl .nil))))) (zaa zfn nn_k.1 nn_k.2)) zaS) (fun _ _ _ => rfl))
  (zab (zae zeD (nfree zjD) (zak (.cons (zan zb9 (N.f _ 17 (.tail _ (.tail _ (.tail _ (.tail _ (.tail _ (.tail _ (.tail _ (.tail _ (.tail _ (.tail _ (.tail _ (.tail _ (.tail _ (.head _))))))))))))))) rfl (.cons (zaa zbH nn_left.1 nn_left.2) rfl .nil)) rfl (.cons (zan zb9 (N.f _ 17 (.tail _ (.tail _ (.tail _ (.tail _ (.tail _ (.tail _ (.tail _ (.tail _ (.tail _ (.tail _ (.tail _ (.tail _ (.tail _ (.head _))))))))))))))) rfl (.cons (zag (zaa zbH nn_left.1 nn_left.2) (zac rfl) zj0) rfl .nil)) rfl .nil))) (fun _ _ _ => rfl))
  (zab (zae zdw (nfree zkJ) (zak (.cons (zan zb9 (N.f _ 17 (.tail _ (.tail _ (.tail _ (.tail _ (.tail _ (.tail _ (.tail _ (.tail _ (.tail _ (.tail _ (.tail _ (.tail _ (.tail _ (.head _))))))))))))))) rfl (.cons (zag (zaa zbH nn_left.1 nn_left.2) (zac rfl) zj0) rfl .nil)) rfl (.cons (zan zb9 (N.f _ 17 (.tail _ (.tail _ (.tail _ (.tail _ (.tail _ (.tail _ (.tail _ (.tail _ (.tail _ (.tail _ (.tail _ (.tail _ (.tail _ (.head _))))))))))))))) rfl (.cons (zag (zaa zbH nn_left.1 nn_left.2) (zac rfl) zj0) rfl .nil)) rfl .nil))) (fun _ _ _ => rfl))
  (zab (zae zdG (nfree zia) (zcL (zaf (zag (zaa zbH nn_left.1 nn_left.2) (zac rfl) zjZ) (zac rfl) op_eq rfl) (zak (.cons (zay (.cons (zac rfl) rfl (.cons (zak (.cons (zac rfl) rfl .nil)) rfl .nil))) rfl .nil)) (zak .nil)) (fun _ _ _ => rfl))
  (zab (zae zfo (nfree zkO) (ziJ rfl rfl (by decide) (zac rfl) (.cons (zdI ⟨zc1, zgu, (zbk (zaa zeD nn_first.1 nn_first.2)), zcy rfl, zd3, (zaa rfl nn_text.1 nn_text.2), fun _ _ => rfl⟩) rfl .nil)) (fun _ _ _ => rfl))
  (zab (zae zfj (nfree zkL) (ziJ rfl rfl (by decide) (zac rfl) (.cons (zdI ⟨zc1, zgu, (zbk (zag (zag (zax (zaa zdw nn_then.1 nn_then.2) .no (.yes (zac rfl))) (zaa zdG nn_between.1 nn_between.2) zaS) (zax (zaa zdw nn_then.1 nn_then.2) (.yes (zac rfl)) .no) zaS)), zcy rfl, zd3, (zaa rfl nn_text.1 nn_text.2), fun _ _ => rfl⟩) rfl .nil)) (fun _ _ _ => rfl))
  (zab (zae zdF (nfree zgS) (zak (.cons (zac rfl) rfl .nil)) (fun _ _ _ => rfl))
  (zab (zja zkn zgs (nfree zkK) (nfree zjC) (zbk (zag (zag (zag (zag (zaa zeD nn_first.1 nn_first.2) (zak (.cons (zay (.cons (zac rfl) rfl (.cons (zak (.cons (zac rfl) rfl .nil)) rfl .nil))) rfl .nil)) zaS) (zax (zaa zdw nn_then.1 nn_then.2) .no (.yes (zac rfl))) zaS) (zaa zdG nn_between.1 nn_between.2) zaS) (zax (zaa zdw nn_then.1 nn_then.2) (.yes (zac rfl)) .no) zaS)) (zab (zae zdF (nfree zgS) (zag (zaa zdF nn_items.1 nn_items.2) (zaa zgs nn_means.1 nn_means.2) zaS) (fun _ _ _ => rfl))
  zad) (fun _ _ => rfl))
  (zab (zae zk9 (nfree zlJ) (zan zc6 (N.f _ 1 (.tail _ (.head _))) rfl (.cons (zag (zac rfl) (zaa zfo nn_head.1 nn_head.2) zaS) rfl (.cons (zaa zed nn_star.1 nn_star.2) rfl (.cons (zac rfl) rfl .nil)))) (fun _ _ _ => rfl))
  (zab (zae zi4 (nfree zjA) (zan zc6 (N.f _ 1 (.tail _ (.head _))) rfl (.cons (zaa zfj nn_tail.1 nn_tail.2) rfl (.cons (zaa zed nn_star.1 nn_star.2) rfl (.cons (zac rfl) rfl .nil)))) (fun _ _ _ => rfl))
  (zab (zae zgq (nfree zjw) (zan zc6 (N.f _ 1 (.tail _ (.head _))) rfl (.cons (zan zhE (N.f _ 4 (.tail _ (.tail _ (.tail _ (.tail _ (.head _)))))) rfl (.cons (zac rfl) rfl (.cons (zaa zfo nn_head.1 nn_head.2) rfl (.cons (zaa zfj nn_tail.1 nn_tail.2) rfl .nil)))) rfl (.cons (zaa zed nn_star.1 nn_star.2) rfl (.cons (zac rfl) rfl .nil)))) (fun _ _ _ => rfl))
  (zab (zb6 zhL (nfree k_law_n) (zbZ zcD (N.b _ (.tail _ (.tail _ (.tail _ (.tail _ (.tail _ (.tail _ (.tail _ (.tail _ (.tail _ (.tail _ (.head _)))))))))))) (.cons (zac rfl) rfl .nil)) (zab (zae zeC (nfree zjx) (zan zgQ (N.f _ 15 (.tail _ (.tail _ (.tail _ (.tail _ (.tail _ (.tail _ (.tail _ (.tail _ (.tail _ (.tail _ (.tail _ (.tail _ (.head _)))))))))))))) rfl (.cons (zaa zgq nn_whole.1 nn_whole.2) rfl (.cons (zaa zed nn_star.1 nn_star.2) rfl (.cons (zah (zaa zdD nn_paths.1 nn_paths.2) (zaa zhL nn_n.1 nn_n.2)) rfl .nil)))) (fun _ _ _ => rfl))
  (zab (zc2 ⟨_, zdC⟩ (zgF ⟨zc1, zgu, (zbk (zah (zaa zdC nn_rises.1 nn_rises.2) (zaa zhL nn_n.1 nn_n.2))), zcy rfl, (zeW (zaE (.and (zaf (zaa rfl nn_folder.1 nn_folder.2) (zac rfl) op_ne rfl) (.and (zan rfl (N.f _ 15 (.tail _ (.tail _ (.tail _ (.tail _ (.tail _ (.tail _ (.tail _ (.tail _ (.tail _ (.tail _ (.tail _ (.tail _ (.head _)))))))))))))) rfl (.cons (zaa rfl nn_one.1 nn_one.2) rfl (.cons (zaa rfl nn_star.1 nn_star.2) rfl (.cons (zaa rfl nn_folder.1 nn_folder.2) rfl .nil)))) (.one (zan rfl (N.f _ 15 (.tail _ (.tail _ (.tail _ (.tail _ (.tail _ (.tail _ (.tail _ (.tail _ (.tail _ (.tail _ (.tail _ (.tail _ (.head _)))))))))))))) rfl (.cons (zaa rfl nn_other.1 nn_other.2) rfl (.cons (zaa rfl nn_star.1 nn_star.2) rfl (.cons (zaa rfl nn_rest.1 nn_rest.2) rfl .nil))))))))), (zac rfl), fun _ _ => rfl⟩ zho (nfree zhC) (swapC zhC rfl rfl)))
  (zab (zai (zaE (.or (zaf (zaa zeC nn_taken.1 nn_taken.2) (zaf (zaa zho nn_some.1 nn_some.2) (zak .nil) op_ne rfl) op_ne rfl) (.one (zaf (zaa zeC nn_taken.1 nn_taken.2) (zan zgR (N.f _ 34 (.tail _ (.tail _ (.tail _ (.tail _ (.tail _ (.tail _ (.tail _ (.tail _ (.tail _ (.tail _ (.tail _ (.tail _ (.tail _ (.tail _ (.head _)))))))))))))))) rfl (.cons (zaa zdF nn_items.1 nn_items.2) rfl (.cons (zah (zaa zdD nn_paths.1 nn_paths.2) (zaa zhL nn_n.1 nn_n.2)) rfl .nil))) op_ne rfl)))) (zab (zat (zac rfl))
  zad) zad)
  zad))) (fun _ _ => rfl))
  zad)))))))))))) (fun _ _ => rfl))
  (zab (zat (zac rfl))
  zad))))))
end Mine
end W10x
section P0x
open PySem
namespace Mine
set_option genInjectivity false in
structure At (pat : List Nat) (p : Nat) (u : List Nat) : Prop where
  drop : pat.drop p = u
  le : p ≤ pat.length
  small : pat.length ≤ 100000
noncomputable def P (p k : Nat) : D := .int ((p + k : Nat) : Int)
noncomputable def N (pat : List Nat) : D := .int (pat.length : Int)
section
variable {pat u : List Nat} {p : Nat}
theorem At.len (H : At pat p u) : pat.length = p + u.length := by
  have := congrArg List.length H.drop
  rw [List.length_drop] at this
  have := H.le
  omega
theorem At.get (H : At pat p u) (k : Nat) : pat[p + k]? = u[k]? := by rw [← H.drop, List.getElem?_drop]
theorem zmy {z : Int} (h1 : 0 ≤ z) (h2 : z ≤ 200000) : small z = true := by
  unfold small
  simp only [Bool.and_eq_true, decide_eq_true_eq]
  omega
theorem At.sm (H : At pat p u) {k : Nat} (hk : k ≤ 100000) : Mine.small ((p + k : Nat) : Int) = true :=
  zmy (Int.natCast_nonneg _) (by have h := Nat.add_le_add (Nat.le_trans H.le H.small) hk; clear hk; omega)
theorem P_add (k j : Nat) : opF .add [P p k, .int (j : Int)] = some (.val (P p (k + j))) := by
  show some (R.val (.int (((p + k : Nat) : Int) + (j : Int)))) = some (R.val (.int ((p + (k + j) : Nat) : Int)))
  rw [show (((p + k : Nat) : Int) + (j : Int)) = ((p + (k + j) : Nat) : Int) by omega]
theorem idx (H : At pat p u) {k : Nat} (hk : k ≤ 100000) : opF .index [.str pat, P p k] = (u[k]?).map fun c => .val (.str [c]) := by
  have hl := H.len
  have hs := H.small
  show (if small ((p + k : Nat) : Int) then (match place ((p + k : Nat) : Int) pat.length with | some k => (pat[k]?).map fun c => R.val (.str [c]) | Option.none => Option.none) else Option.none) = _
  rw [H.sm hk]
  simp only [if_true]
  unfold place
  rw [if_pos (Int.natCast_nonneg _)]
  by_cases h : p + k < pat.length
  · rw [if_pos (by exact_mod_cast h)]
    simp only [Int.toNat_natCast]
    rw [H.get]
  · rw [if_neg (by exact_mod_cast h)]
    rw [← H.get, List.getElem?_eq_none (Nat.not_lt.mp h)]
    rfl
theorem zhV {k : Nat} : (u[k]?).isSome = decide (k < u.length) := by
  by_cases h : k < u.length
  · rw [List.getElem?_eq_getElem h]; simp [h]
  · rw [List.getElem?_eq_none (Nat.not_lt.mp h)]; simp [h]
theorem lt_N (H : At pat p u) {k : Nat} : opF .lt [P p k, N pat] = some (.val (.bool (u[k]?).isSome)) := by
  have hl := H.len
  show some (R.val (.bool (decide (((p + k : Nat) : Int) < (pat.length : Int))))) = _
  rw [zhV]
  congr 4
  simp only [eq_iff_iff]
  omega
theorem ge_N (H : At pat p u) {k : Nat} : opF .ge [P p k, N pat] = some (.val (.bool (!(u[k]?).isSome))) := by
  have hl := H.len
  show some (R.val (.bool (decide ((pat.length : Int) ≤ ((p + k : Nat) : Int))))) = _
  rw [zhV, ← decide_not]
  congr 4
  simp only [eq_iff_iff]
  omega
theorem lt_0 {k : Nat} : opF .lt [P p k, .int 0] = some (.val (.bool false)) := by
  show some (R.val (.bool (decide (((p + k : Nat) : Int) < 0)))) = _
  rw [decide_eq_false (by omega)]
theorem sl (H : At pat p u) {a b : Nat} (ha : a ≤ 100000) (hb : b ≤ 100000) : opF .slice [.str pat, P p a, P p b] = some (.val (.str (cut u a b))) := by
  have hl := H.len
  have hs := H.small
  have cl : ∀ k d : Nat, k ≤ 100000 → bound (P p k) d pat.length = some (min (p + k) pat.length) := fun k d hk => by
    show (if small ((p + k : Nat) : Int) then some (clip ((p + k : Nat) : Int) pat.length) else Option.none) = _
    rw [H.sm hk]
    simp only [if_true]
    unfold clip
    rw [if_neg (Int.not_lt.mpr (Int.natCast_nonneg _))]
    by_cases h : p + k < pat.length
    · rw [if_pos (by exact_mod_cast h), Int.toNat_natCast, Nat.min_eq_left (Nat.le_of_lt h)]
    · rw [if_neg (by exact_mod_cast h), Nat.min_eq_right (Nat.not_lt.mp h)]
  show (match bound (P p a) 0 pat.length, bound (P p b) pat.length pat.length with
    | some lo, some hi => some (R.val (.str (cut pat lo hi)))
    | _, _ => Option.none) = _
  rw [cl a 0 ha, cl b _ hb]
  show some (R.val (.str (cut pat (min (p + a) pat.length) (min (p + b) pat.length)))) = _
  congr 3
  unfold cut
  rw [← H.drop, List.drop_drop]
  have e1 : pat.drop (min (p + a) pat.length) = pat.drop (p + a) := by
    by_cases h : p + a ≤ pat.length
    · rw [Nat.min_eq_left h]
    · rw [Nat.min_eq_right (Nat.le_of_not_le h), List.drop_eq_nil_of_le (Nat.le_refl _), List.drop_eq_nil_of_le (Nat.le_of_not_le h)]
  rw [e1]
  by_cases h : p + b ≤ pat.length
  · rw [Nat.min_eq_left h]
    by_cases h' : p + a ≤ pat.length
    · rw [Nat.min_eq_left h', Nat.add_sub_add_left]
    · rw [List.drop_eq_nil_of_le (i := p + a) (Nat.le_of_not_le h')]; simp
  · have h2 := Nat.le_of_not_le h
    rw [Nat.min_eq_right h2]
    rw [List.take_of_length_le (by rw [List.length_drop]; clear hs ha hb cl e1 hl h; omega), List.take_of_length_le (by rw [List.length_drop]; clear hs ha hb cl e1 hl h; omega)]
end
end Mine
end P0x
section P1x
open PySem PySem.StrLaws PySem.Builtin PySem.Builtin.Str
namespace Mine
theorem sub1 (a : List Nat) (c i hi : Nat) : (i + (⟨#[c]⟩ : PySem.Str).length ≤ hi ∧ subAt ⟨a.toArray⟩ ⟨#[c]⟩ i = true) ↔ (i < hi ∧ a[i]? = some c) := by
  rw [subAt_eq]
  show (i + 1 ≤ hi ∧ ((a.drop i).take 1 == [c]) = true) ↔ _
  rw [take1_drop]
  exact ⟨fun h => ⟨by omega, h.2⟩, fun h => ⟨by omega, h.2⟩⟩
theorem zme (b : List Nat) (c : Nat) : Txt.contains ⟨b.toArray⟩ ⟨[c].toArray⟩ = decide (c ∈ b) := found_one ⟨b.toArray⟩ c
theorem zi9 (a : List Nat) (c : Nat) : Txt.startswith ⟨a.toArray⟩ ⟨[c].toArray⟩ = decide (a.head? = some c) := by
  unfold Txt.startswith
  have h := sub1 a c 0 a.length
  rw [Bool.eq_iff_iff, Bool.and_eq_true, decide_eq_true_eq, decide_eq_true_eq]
  rw [List.head?_eq_getElem?]
  refine h.trans ⟨fun x => x.2, fun x => ⟨?_, x⟩⟩
  rcases Nat.lt_or_ge 0 a.length with q | q
  · exact q
  · rw [List.getElem?_eq_none q] at x; cases x
theorem zmb (a : List Nat) (c : Nat) : Txt.endswith ⟨a.toArray⟩ ⟨[c].toArray⟩ = decide (a.getLast? = some c) := by
  unfold Txt.endswith
  rw [Bool.eq_iff_iff, Bool.and_eq_true, decide_eq_true_eq, decide_eq_true_eq]
  have h := sub1 a c (a.length - 1) a.length
  show (0 + 1 ≤ a.length ∧ subAt ⟨a.toArray⟩ ⟨#[c]⟩ (a.length - 1) = true) ↔ _
  rw [List.getLast?_eq_getElem?]
  rcases Nat.lt_or_ge 0 a.length with q | q
  · constructor
    · rintro ⟨x, y⟩
      exact (h.mp ⟨by show a.length - 1 + 1 ≤ a.length; omega, y⟩).2
    · intro x
      exact ⟨by omega, (h.mpr ⟨by omega, x⟩).2⟩
  · constructor
    · rintro ⟨x, y⟩; omega
    · intro x
      rw [List.getElem?_eq_none (by omega)] at x; cases x
theorem ziF {a : List Nat} {c lo hi lim : Nat} (hl : 1 ≤ lim) (h : ∀ i, lo ≤ i → i < hi → a[i]? ≠ some c) : occurrences ⟨a.toArray⟩ ⟨[c].toArray⟩ lo hi lim = [] := by
  rw [occ_eq]
  rcases occ_first ⟨a.toArray⟩ ⟨[c].toArray⟩ hi lim hl (List.range' lo (hi + 1 - lo)) lo (fun i hi => by have := List.mem_range'_1.mp hi; omega) with ⟨h0, _⟩ | ⟨pre, b, post, e, h0, hb, hn⟩
  · rw [h0]
  · exfalso
    have h1 := (sub1 a c b hi).mp hb
    have hs : b ∈ List.range' lo (hi + 1 - lo) := by rw [e]; simp
    have := List.mem_range'_1.mp hs
    exact h b this.1 h1.1 h1.2
theorem ziE {a : List Nat} {c lo hi lim i : Nat} (hl : 1 ≤ lim) (h1 : lo ≤ i) (h2 : i < hi) (h3 : a[i]? = some c) (h : ∀ k, lo ≤ k → k < i → a[k]? ≠ some c) : ∃ r, occurrences ⟨a.toArray⟩ ⟨[c].toArray⟩ lo hi lim = i :: r := by
  rw [occ_eq]
  rcases occ_first ⟨a.toArray⟩ ⟨[c].toArray⟩ hi lim hl (List.range' lo (hi + 1 - lo)) lo (fun i hi => by have := List.mem_range'_1.mp hi; omega) with ⟨h0, hn⟩ | ⟨pre, b, post, e, h0, hb, hn⟩
  · exact absurd ((sub1 a c i hi).mpr ⟨h2, h3⟩) (hn i (by rw [List.mem_range'_1]; omega))
  · have hs := range'_split_from e
    have hb' := (sub1 a c b hi).mp hb
    have : b = i := by
      rcases Nat.lt_trichotomy b i with q | q | q
      · exact absurd hb'.2 (h b hs.1 q)
      · exact q
      · exact absurd ((sub1 a c i hi).mpr ⟨h2, h3⟩) (hn i (hs.2 i h1 q))
    subst this
    generalize (forIn (List.range' lo (hi + 1 - lo)) ((#[] : Array Nat), lo) (occBody ⟨a.toArray⟩ ⟨[c].toArray⟩ hi lim)).run.fst = arr at h0
    have h1 : arr.toList[0]? = some b := by simpa using h0
    cases hL : arr.toList with
    | nil => rw [hL] at h1; cases h1
    | cons x t => rw [hL] at h1; simp at h1; rw [h1]; exact ⟨t, rfl⟩
theorem noOcc1 (a : List Nat) (c : Nat) : (occurrences ⟨a.toArray⟩ ⟨[c].toArray⟩ 0 a.length (a.length + 1)).isEmpty = !decide (c ∈ a) := by
  by_cases h : c ∈ a
  · obtain ⟨j, hj⟩ := List.getElem?_of_mem h
    rw [decide_eq_true h]
    have hex : ∃ i : Nat, a[i]? = some c ∧ ∀ k : Nat, k < i → a[k]? ≠ some c := by
      clear h
      induction j using Nat.strongRecOn with
      | _ j ih =>
        by_cases q : ∃ k, k < j ∧ a[k]? = some c
        · obtain ⟨k, q1, q2⟩ := q
          exact ih k q1 q2
        · exact ⟨j, hj, fun k hk e => q ⟨k, hk, e⟩⟩
    obtain ⟨i, h1, h2⟩ := hex
    obtain ⟨r, e⟩ := ziE (a := a) (c := c) (lo := 0) (hi := a.length) (lim := a.length + 1) (by omega) (Nat.zero_le i) (List.getElem?_eq_some_iff.mp h1).1 h1 fun k _ => h2 k
    rw [e]; rfl
  · rw [decide_eq_false h, ziF (by omega) (fun i _ _ e => h (List.mem_of_getElem? e) : ∀ i, 0 ≤ i → i < a.length → a[i]? ≠ some c)]
    rfl
end Mine
end P1x
section P2x
open PySem PySem.StrLaws PySem.Builtin PySem.Builtin.Str
namespace Mine
noncomputable def firstAt (c : Nat) : List Nat → Option Nat
  | [] => none
  | x :: r => if x = c then some 0 else (firstAt c r).map (· + 1)
theorem zfW {c : Nat} : ∀ {l : List Nat}, firstAt c l = none → ∀ k : Nat, l[k]? ≠ some c
  | [], _, k, e => by simp at e
  | x :: r, h, k, e => by
    unfold firstAt at h
    split at h
    · cases h
    · rename_i hx
      have h' : firstAt c r = none := by cases q : firstAt c r <;> rw [q] at h <;> simp at h ⊢
      cases k with
      | zero => simp at e; exact hx e
      | succ k => exact zfW h' k (by simpa using e)
theorem zfV {c : Nat} : ∀ {l : List Nat} {m : Nat}, firstAt c l = some m → l[m]? = some c ∧ ∀ k : Nat, k < m → l[k]? ≠ some c
  | [], _, h => by cases h
  | x :: r, m, h => by
    unfold firstAt at h
    split at h
    · rename_i hx
      cases h
      exact ⟨by simp [hx], fun k hk => by omega⟩
    · rename_i hx
      obtain ⟨m', h', rfl⟩ := Option.map_eq_some_iff.mp h
      obtain ⟨a, b⟩ := zfV h'
      refine ⟨by simpa using a, fun k hk e => ?_⟩
      cases k with
      | zero => simp at e; exact hx e
      | succ k => exact b k (by omega) (by simpa using e)
section
variable {pat u : List Nat} {p : Nat}
theorem zjJ {α : Type} (l : List α) (a b k : Nat) : (cut l a b)[k]? = if k < b - a then l[a + k]? else none := by
  unfold cut
  rw [List.getElem?_take]
  split <;> simp [List.getElem?_drop]
theorem find1 (H : At pat p u) {c a b : Nat} (ha : a ≤ 100000) (hb : b ≤ 100000) (hab : b ≤ u.length) : opF .find4 [.str pat, .str [c], P p a, P p b] = some (.val (match firstAt c (cut u a b) with | some m => P p (a + m) | none => .int (-1))) := by
  have hl := H.len
  have hs := H.small
  show (if small ((p + a : Nat) : Int) = true ∧ small ((p + b : Nat) : Int) = true then some (R.val (.int (match occurrences ⟨pat.toArray⟩ ⟨[c].toArray⟩ (fromIndex pat.length ((p + a : Nat) : Int)) (min (fromIndex pat.length ((p + b : Nat) : Int)) pat.length) 1 with | k :: _ => (k : Int) | [] => -1))) else Option.none) = _
  rw [if_pos ⟨H.sm ha, H.sm hb⟩]
  have f : ∀ k : Nat, fromIndex pat.length (k : Int) = k := fun k => by
    unfold fromIndex
    rw [if_neg (Int.not_lt.mpr (Int.natCast_nonneg k))]
    rfl
  have hpb : p + b ≤ pat.length := hl ▸ Nat.add_le_add_left hab p
  rw [f, f, Nat.min_eq_left hpb]
  cases h : firstAt c (cut u a b) with
  | none =>
    have hn := zfW h
    rw [ziF (Nat.le_refl 1)]
    intro i h1 h2 h3
    have := hn (i - p - a)
    clear hl hs ha hb hab hpb hn
    rw [zjJ, if_pos (by omega)] at this
    have e : a + (i - p - a) = i - p := by clear this; omega
    rw [e, ← H.get, show p + (i - p) = i by clear this h2 e; omega] at this
    exact this h3
  | some m =>
    obtain ⟨h1, h2⟩ := zfV h
    rw [zjJ] at h1
    split at h1
    · rename_i hm
      obtain ⟨r, e⟩ := ziE (a := pat) (c := c) (lo := p + a) (hi := p + b) (lim := 1) (i := p + (a + m)) (Nat.le_refl 1) (Nat.add_le_add_left (Nat.le_add_right a m) p) (by clear ha hb hab hl hs hpb h1 h2; omega) (by rw [H.get]; exact h1) (fun k hk1 hk2 e => by
        have := h2 (k - p - a) (by clear ha hb hab hl hs hpb h1 h2 hm; omega)
        rw [zjJ, if_pos (by clear ha hb hab hl hs hpb h1 h2 this; omega)] at this
        have e' : a + (k - p - a) = k - p := by clear ha hb hab hl hs hpb h1 h2 this hm hk2; omega
        rw [e', ← H.get, show p + (k - p) = k by clear ha hb hab hl hs hpb h1 h2 this hm hk2 e'; omega] at this
        exact this e)
      rw [e]
      rfl
    · cases h1
end
end Mine
end P2x
section P3x
open PySem PySem.StrLaws PySem.Builtin PySem.Builtin.Str
namespace Mine
noncomputable abbrev Res := Option (List Slot × Out)
section
variable {cf : Nat → List D → Option D} {ρ ρ₁ ρ' : List Slot} {o : Out} {res : Res} {a b : S} {x c : X} {d : D} {i j k : Nat}
theorem za9 : ex cf .skip ρ = some (ρ, .next) := zkg _
noncomputable def after (cf : Nat → List D → Option D) (b : S) (ρ : List Slot) : Out → Res
  | .next => ex cf b ρ
  | o => some (ρ, o)
theorem R_seq (h : ex cf a ρ = some (ρ₁, o)) (h2 : after cf b ρ₁ o = res) : ex cf (.seq a b) ρ = res := by
  rw [znd, h]
  cases o <;> exact h2
theorem zal (h : ex cf b ρ = res) : after cf b ρ .next = res := h
theorem zbx : after cf b ρ .brk = some (ρ, .brk) := rfl
theorem zbc : after cf b ρ .cont = some (ρ, .cont) := rfl
theorem zaC : after cf b ρ (.ret d) = some (ρ, .ret d) := rfl
theorem zaj (h : ev1 cf x ρ = some d) (h2 : ρ.set i (.val d) = ρ') : ex cf (.assign i x) ρ = some (ρ', .next) := by
  rw [zej]; rw [h, ← h2]; rfl
theorem za3 (h0 : noApp i ρ = true) {l : List D} (h : ev cf x ρ = some [.own l]) (h2 : ρ.set i (.own l) = ρ') : ex cf (.assignO i x) ρ = some (ρ', .next) := by
  rw [zeP]; rw [if_pos h0, h, ← h2]
theorem zbp {d1 d2 : D} (h : ev1 cf x ρ = some (.tup [d1, d2])) (h2 : (ρ.set i (.val d1)).set j (.val d2) = ρ') : ex cf (.assign2 i j x) ρ = some (ρ', .next) := by
  rw [zgZ]; rw [h, ← h2]
theorem zcr {l : List D} (h : ownAt ρ j = some l) (h2 : ρ.set i (.app j) = ρ') : ex cf (.alias i j) ρ = some (ρ', .next) := by
  rw [ziT]; rw [h, ← h2]
theorem zbz {l : List D} (h : ev1 cf x ρ = some d) (h1 : ownAt ρ i = some l) (hl : l.length < lim) (h2 : ρ.set i (.own (l ++ [d])) = ρ') : ex cf (.append i x) ρ = some (ρ', .next) := by
  rw [zhH]; rw [h, h1]; simp only [if_pos hl, h2]
theorem zaU {l : List D} (h0 : ρ[i]? = some (.app j)) (h : ev1 cf x ρ = some d) (h1 : ownAt ρ j = some l) (hl : l.length < lim) (h2 : ρ.set j (.own (l ++ [d])) = ρ') : ex cf (.appendVia i j x) ρ = some (ρ', .next) := by
  rw [zff]; rw [h0, h, h1]; simp only [if_true, if_pos hl, h2]
theorem R_aug {s t : List Nat} (h0 : ρ[i]? = some (.val (.str s))) (h : ev1 cf x ρ = some (.str t)) (hl : s.length + t.length ≤ lim) (h2 : ρ.set i (.val (.str (s ++ t))) = ρ') : ex cf (.aug i x) ρ = some (ρ', .next) := by
  rw [zl4]; rw [h0, h]; simp only [if_pos hl, h2]
theorem zbw {l : List D} {n : Int} {p : Nat} (h : ev1 cf x ρ = some d) (hk : ev1 cf c ρ = some (.int n)) (h1 : ownAt ρ i = some l) (hs : small n = true) (hp : place n l.length = some p) (h2 : ρ.set i (.own (l.set p d)) = ρ') : ex cf (.setItem i c x) ρ = some (ρ', .next) := by
  rw [zgW]; rw [h, hk, h1]; simp only [if_pos hs, hp, h2]
theorem zby {l : List D} {n : Int} (hk : ev1 cf c ρ = some (.int n)) (h1 : ownAt ρ i = some l) (hn : 0 ≤ n ∧ n < l.length) (h2 : ρ.set i (.own (l.eraseIdx n.toNat)) = ρ') : ex cf (.delItem i c) ρ = some (ρ', .next) := by
  rw [zgY]; rw [hk, h1]; simp only [if_pos hn, h2]
theorem R_fz {l : List D} (h : ownAt ρ i = some l) (h2 : ρ.set i (.val (.list l)) = ρ') : ex cf (.fz i) ρ = some (ρ', .next) := by rw [ex_fz, h, ← h2]
theorem zmq (h : ownAt ρ i = none) : ex cf (.fz i) ρ = some (ρ, .next) := by rw [ex_fz, h]
noncomputable def branch (cf : Nat → List D → Option D) (a b : S) (ρ : List Slot) : Bool → Res
  | true => ex cf a ρ
  | false => ex cf b ρ
theorem R_ite {t : Bool} (h : evT cf c ρ = some t) (h2 : branch cf a b ρ t = res) : ex cf (.ite c a b) ρ = res := by
  rw [zl3]; rw [h]; cases t <;> exact h2
theorem R_tt (h : ex cf a ρ = res) : branch cf a b ρ true = res := h
theorem R_ff (h : ex cf b ρ = res) : branch cf a b ρ false = res := h
theorem zm2 (h : evT cf c ρ = some true) : ex cf (.assert c) ρ = some (ρ, .next) := by rw [zhG]; rw [h]
theorem R_ret (h : ev1 cf x ρ = some d) : ex cf (.ret x) ρ = some (ρ, .ret d) := by rw [zl2]; rw [h]; rfl
theorem R_try (h : ex cf b ρ = res) : ex cf (.try_ b) ρ = res := by rw [zkf]; exact h
noncomputable def wOut (cf : Nat → List D → Option D) (c : X) (b : S) (n : Nat) (ρ : List Slot) : Out → Res
  | .next => whileGo (evT cf c) (ex cf b) n ρ
  | .cont => whileGo (evT cf c) (ex cf b) n ρ
  | .brk => some (ρ, .next)
  | .ret d => some (ρ, .ret d)
noncomputable def wTurn (cf : Nat → List D → Option D) (c : X) (b : S) (n : Nat) (ρ : List Slot) : Bool → Res
  | false => some (ρ, .next)
  | true => match ex cf b ρ with
    | some (ρ', o) => wOut cf c b n ρ' o
    | none => none
theorem za1 {n : Nat} {t : Bool} (h : evT cf c ρ = some t) (h2 : wTurn cf c b n ρ t = res) : whileGo (evT cf c) (ex cf b) (n + 1) ρ = res := by
  unfold whileGo
  rw [h]
  cases t with
  | false => exact h2
  | true =>
    unfold wTurn at h2
    rw [← h2]
    simp only
    cases ex cf b ρ with
    | none => rfl
    | some y =>
      obtain ⟨ρ', o⟩ := y
      cases o <;> rfl
theorem zce (h : whileGo (evT cf c) (ex cf b) (99999 + 1) ρ = res) : ex cf (.while c b) ρ = res := by rw [ziS]; exact h
theorem zcg {n : Nat} : wTurn cf c b n ρ false = some (ρ, .next) := rfl
theorem R_wGo {n : Nat} (h : ex cf b ρ = some (ρ₁, o)) (h2 : wOut cf c b n ρ₁ o = res) : wTurn cf c b n ρ true = res := by
  unfold wTurn; rw [h]; exact h2
theorem zcf {n : Nat} (h : whileGo (evT cf c) (ex cf b) n ρ = res) : wOut cf c b n ρ .next = res := h
theorem zdh {n : Nat} : wOut cf c b n ρ .brk = some (ρ, .next) := rfl
theorem zdg {n : Nat} : wOut cf c b n ρ (.ret d) = some (ρ, .ret d) := rfl
noncomputable def fOut (cf : Nat → List D → Option D) (st : D → List Slot → Option (List Slot)) (b : S) (r : List D) (ρ : List Slot) : Out → Res
  | .next => forGo st (ex cf b) r ρ
  | .cont => forGo st (ex cf b) r ρ
  | .brk => some (ρ, .next)
  | .ret d => some (ρ, .ret d)
theorem zbV {st : D → List Slot → Option (List Slot)} : forGo st (ex cf b) [] ρ = some (ρ, .next) := rfl
theorem za2 {st : D → List Slot → Option (List Slot)} {r : List D} {ρ₂ : List Slot} (h1 : st d ρ = some ρ₁) (h : ex cf b ρ₁ = some (ρ₂, o)) (h2 : fOut cf st b r ρ₂ o = res) : forGo st (ex cf b) (d :: r) ρ = res := by
  unfold forGo
  rw [h1]
  simp only [h]
  cases o <;> exact h2
theorem zbQ {st : D → List Slot → Option (List Slot)} {r : List D} (h : forGo st (ex cf b) r ρ = res) : fOut cf st b r ρ .next = res := h
theorem zcq {st : D → List Slot → Option (List Slot)} {r : List D} (h : forGo st (ex cf b) r ρ = res) : fOut cf st b r ρ .cont = res := h
theorem zdj {st : D → List Slot → Option (List Slot)} {r : List D} : fOut cf st b r ρ .brk = some (ρ, .next) := rfl
theorem zdi {st : D → List Slot → Option (List Slot)} {r : List D} : fOut cf st b r ρ (.ret d) = some (ρ, .ret d) := rfl
theorem R_for {l : List D} (h : evI cf x ρ = some l) (h2 : forGo (put1 i) (ex cf b) l ρ = res) : ex cf (.forE i x b) ρ = res := by rw [zkh]; rw [h]; exact h2
theorem R_for2 {l : List D} (h : evI cf x ρ = some l) (h2 : forGo (put2 i j) (ex cf b) l ρ = res) : ex cf (.forE2 i j x b) ρ = res := by rw [zgX]; rw [h]; exact h2
theorem put1_eq : put1 i d ρ = some (ρ.set i (.val d)) := rfl
end
noncomputable def one (o : Option (List R)) : Option D := match o with
  | some [r] => r.fz
  | _ => none
noncomputable def theItems (o : Option (List R)) : Option (List D) := match o with
  | some [.val (.list l)] => some l
  | _ => none
section
variable {cf : Nat → List D → Option D} {ρ : List Slot} {x : X} {r : R}
theorem zcx : ev1 cf x ρ = one (ev cf x ρ) := by
  unfold ev1
  generalize ev cf x ρ = o
  match o with
  | none => rfl
  | some [] => rfl
  | some [_] => rfl
  | some (_ :: _ :: _) => rfl
theorem zcO : evT cf x ρ = truthR (ev cf x ρ) := by
  unfold evT
  generalize ev cf x ρ = o
  match o with
  | none => rfl
  | some _ => rfl
theorem zc7 : evI cf x ρ = theItems (ev cf x ρ) := by
  unfold evI
  generalize ev cf x ρ = o
  match o with
  | none => rfl
  | some [] => rfl
  | some [.val (.list _)] => rfl
  | some [.val .none] => rfl
  | some [.val (.bool _)] => rfl
  | some [.val (.int _)] => rfl
  | some [.val (.str _)] => rfl
  | some [.val (.tup _)] => rfl
  | some [.val (.tok _)] => rfl
  | some [.val (.ty _)] => rfl
  | some [.own _] => rfl
  | some [.bor _] => rfl
  | some (_ :: _ :: _) => rfl
theorem zbq : one (some [r]) = r.fz := rfl
theorem zaG {l : List D} : theItems (some [.val (.list l)]) = some l := rfl
theorem zaL : truthR (some [r]) = r.ds.truth := rfl
end
noncomputable def appOK (i : Nat) (s : Slot) : Bool := match s with | .app j => j != i | _ => true
theorem zbI (i : Nat) (ρ : List Slot) : noApp i ρ = ρ.all (appOK i) := rfl
theorem zaH {i : Nat} {d : D} : appOK i (.val d) = true := rfl
theorem zaI {i : Nat} {d : List D} : appOK i (.own d) = true := rfl
theorem zaP {i : Nat} : appOK i .unset = true := rfl
theorem zbv {i j : Nat} : appOK i (.app j) = (j != i) := rfl
theorem eq_str (a b : List Nat) : opF .eq [.str a, .str b] = some (.val (.bool (decide (a = b)))) := rfl
theorem ne_str (a b : List Nat) : opF .ne [.str a, .str b] = some (.val (.bool (!decide (a = b)))) := rfl
end Mine
end P3x
section P4x
open PySem PySem.StrLaws PySem.Builtin PySem.Builtin.Str
namespace Mine
theorem zbS {r : R} : turnD (some [.val (.bool true)]) (some [r]) = r.fz.map some := rfl
theorem o_len {l : List D} : opF .len [.list l] = some (.val (.int (l.length : Int))) := rfl
theorem o_sub {a b : Int} : opF .sub [.int a, .int b] = some (.val (.int (a - b))) := rfl
theorem o_neg {a : Int} : opF .neg [.int a] = some (.val (.int (-a))) := rfl
theorem zcG : opRange [.int 1, .int 0, .int (-1)] = some [.int 1] := rfl
theorem zdr {a b : D} : opF .index [.list [a, b], .int 0] = some (.val a) := rfl
theorem zdq {a b : D} : opF .index [.list [a, b], .int 1] = some (.val b) := rfl
theorem zdo {a : Nat} : opF .index [.str [a], .int 0] = some (.val (.str [a])) := rfl
theorem zdn {a : Nat} : opF .index [.str [a], .int (-1)] = some (.val (.str [a])) := rfl
theorem zcF {a b : Nat} : opF .index [.str [a, b], .int (-1)] = some (.val (.str [b])) := rfl
theorem o_gt1 {a b : Nat} : opF .gt [.str [a], .str [b]] = some (.val (.bool (decide (b < a)))) := by
  show some (R.val (.bool (decide (([b] : List Nat) < [a])))) = _
  congr 3
  rw [lt_cons_cons, lt_nil_nil]
  simp
theorem zey {a : Nat} : opF .slice [.str [a], .none, .int (-1)] = some (.val (.str [])) := rfl
theorem zex {a b : Nat} : opF .slice [.str [a, b], .none, .int (-1)] = some (.val (.str [a])) := rfl
theorem o_sl1 {a : Nat} : opF .slice [.str [a], .int 1, .none] = some (.val (.str [])) := rfl
theorem zdt : opF .add [.str [], .str []] = some (.val (.str [])) := rfl
theorem zds {a : Nat} : opF .add [.str [a], .str []] = some (.val (.str [a])) := rfl
theorem zdp {a b : Nat} : opF .join [.str [45], .list [.str [a], .str [b]]] = some (.val (.str [a, 45, b])) := rfl
theorem zcI : opF .join [.str [45], .list [.str []]] = some (.val (.str [])) := rfl
theorem zcH {a : Nat} : opF .join [.str [45], .list [.str [a]]] = some (.val (.str [a])) := rfl
theorem P_add1 {p k : Nat} : opF .add [P p k, .int 1] = some (.val (P p (k + 1))) := P_add k 1
theorem P_add2 {p k : Nat} : opF .add [P p k, .int 2] = some (.val (P p (k + 2))) := P_add k 2
theorem P_add3 {p k : Nat} : opF .add [P p k, .int 3] = some (.val (P p (k + 3))) := P_add k 3
theorem zbu (c : Nat) (b : List Nat) : opF .notin [.str [c], .str b] = some (.val (.bool (!decide (c ∈ b)))) := by
  show some (R.val (.bool (!Txt.contains ⟨b.toArray⟩ ⟨[c].toArray⟩))) = _
  rw [zme]
theorem zbT {a : List Nat} {c : Nat} {d : List Nat} (h : decide (c ∈ a) = false) : opF .replace [.str a, .str [c], .str d] = some (.val (.str a)) := by
  show (if (occurrences ⟨a.toArray⟩ ⟨[c].toArray⟩ 0 a.length (a.length + 1)).isEmpty = true then some (R.val (.str a)) else Option.none) = _
  rw [noOcc1, h]; rfl
section
variable {pat u : List Nat} {p : Nat}
theorem find1' (H : At pat p u) {c a b : Nat} (ha : a ≤ 100000) (hb : b ≤ 100000) (hab : (u[b]?).isSome = true) : opF .find4 [.str pat, .str [c], P p a, P p b] = some (.val (match firstAt c (cut u a b) with | some m => P p (a + m) | none => .int (-1))) :=
  find1 H ha hb (by rw [zhV, decide_eq_true_eq] at hab; omega)
end
set_option genInjectivity false in
structure Fx (pat : List Nat) (I : Nat → D) (n : D) (u : List Nat) : Prop where
  i : ∀ k, k ≤ 100000 → opF .index [.str pat, I k] = (u[k]?).map fun c => .val (.str [c])
  l : ∀ k, opF .lt [I k, n] = some (.val (.bool (u[k]?).isSome))
  g : ∀ k, opF .ge [I k, n] = some (.val (.bool (!(u[k]?).isSome)))
  s : ∀ a b, a ≤ 100000 → b ≤ 100000 → opF .slice [.str pat, I a, I b] = some (.val (.str (cut u a b)))
  f : ∀ c a b, a ≤ 100000 → b ≤ 100000 → (u[b]?).isSome = true → opF .find4 [.str pat, .str [c], I a, I b] = some (.val (match firstAt c (cut u a b) with | some m => I (a + m) | none => .int (-1)))
  a1 : ∀ k, opF .add [I k, .int 1] = some (.val (I (k + 1)))
  a2 : ∀ k, opF .add [I k, .int 2] = some (.val (I (k + 2)))
  a3 : ∀ k, opF .add [I k, .int 3] = some (.val (I (k + 3)))
  z : ∀ k, opF .lt [I k, .int 0] = some (.val (.bool false))
theorem At.fx {pat u : List Nat} {p : Nat} (H : At pat p u) : Fx pat (P p) (N pat) u := ⟨fun _ h => idx H h, fun _ => lt_N H, fun _ => ge_N H, fun _ _ h1 h2 => sl H h1 h2, fun _ _ _ h1 h2 h3 => find1' H h1 h2 h3, fun _ => P_add1, fun _ => P_add2, fun _ => P_add3, fun _ => lt_0⟩
inductive TState (pat : List Nat) (n : D) (q : D) (r : List D) (i : D) (ρ : List Slot) : Prop
  | mk (j7 j8 j9 j10 j11 j12 j13 : Slot) (h0 : ρ = [.val (.str pat), .val (.tok 0), .val q, .own r, .app 3, .val i, .val n, j7, j8, j9, j10, j11, j12, j13]) (h7 : appOK 10 j7 = true) (h8 : appOK 10 j8 = true) (h9 : appOK 10 j9 = true) (h10 : appOK 10 j10 = true) (h11 : appOK 10 j11 = true) (h12 : appOK 10 j12 = true) (h13 : appOK 10 j13 = true)
section
variable {pat v : List Nat} {I : Nat → D} {n : D} {ρ : List Slot} {cf : Nat → List D → Option D} {q : D} {r : List D} {j7 j8 j9 j10 j11 j12 j13 : Slot}
theorem zm9 {r : List D} {d : D} : opF .index [.list (r ++ [d]), .int (-1)] = some (.val d) := by
  show (if small (-1) = true then (match place (-1) (r ++ [d]).length with | some k => ((r ++ [d])[k]?).map R.val | none => none) else none) = _
  rw [if_pos (by decide)]
  unfold place
  rw [if_neg (by decide), if_pos (by simp; omega)]
  have e : (-1 + ((r ++ [d]).length : Int)).toNat = r.length := by simp; omega
  simp only [e]
  simp
theorem zhp {r : List D} {d : D} : (r ++ [d]).isEmpty = false := by
  cases r <;> rfl
end
end Mine
end P4x
section P5x
open PySem PySem.StrLaws PySem.Builtin PySem.Builtin.Str
namespace Mine
theorem zfh {fns : Nat → Option Fn} {n f : Nat} {args : List D} {fn : Fn} {ρ : List Slot} {d : D} (h1 : fns f = some fn) (h2 : bindD fn args = some ρ) (h3 : ∃ ρ', ex (callF fns n) fn.body ρ = some (ρ', .ret d)) : callF fns (n + 1) f args = some d := by
  obtain ⟨ρ', h3⟩ := h3
  unfold callF
  rw [h1]
  simp only [h2, h3]
noncomputable def esc (c : Nat) : List Nat := if special.contains c then [92, c] else [c]
noncomputable def EscOK (cf : Nat → List D → Option D) : Prop := ∀ c, c < 128 → cf 0 [.str [c]] = some (.str (esc c))
theorem zjr {c : Nat} (h : c < 128) : opF .translate [.str [c]] = some (.val (.str (esc c))) := by
  show (if c < 128 then some (R.val (.str (if special.contains c then [92, c] else [c]))) else none) = _
  rw [if_pos h]; rfl
theorem zl8 {fns : Nat → Option Fn} (h0 : fns 0 = some fn_escape) (m : Nat) : EscOK (callF fns (m + 1)) := by
  intro c hc
  refine zfh h0 (ρ := [.val (.str [c])]) rfl ?_
  show ∃ ρ', ex (callF fns m) s_escape _ = _
  unfold s_escape
  refine ⟨_, R_seq (R_ite (t := true) rfl (R_tt (R_seq (R_ret (d := .str (esc c)) ?_) zaC))) zaC⟩
  simp only [zcx, zaB, zbh, zcb, zbE, zaT, za7, zbi, zb1, zbs, zbe, za0, zbr, zaY, zaZ, zaK, zaR, zbb, zaX, zaA, zaO, zba, List.getElem?_cons_zero, List.map_cons, List.map_nil, R.ds, zjr hc, Option.map_some, zbq, R.fz]
noncomputable def GoodD (d : D) : Prop := opF .isnot [d, .tok 0] = some (.val (.bool true))
noncomputable def GoodL (r : List D) : Prop := ∀ d ∈ r, GoodD d ∨ d = .tok 0
noncomputable def isTok0 : D → Bool
  | .tok 0 => true
  | _ => false
theorem zlR {d : D} (h : isTok0 d = true) : d = .tok 0 := by
  unfold isTok0 at h
  split at h
  · rfl
  · cases h
noncomputable def pushA (r : List D) : Option D → List D
  | none => if r.getLast?.map isTok0 = some true then r else r ++ [.tok 0]
  | some d => r ++ [d]
theorem At.skip {pat u : List Nat} {p k : Nat} (H : At pat p u) (h : k ≤ u.length) : At pat (p + k) (u.drop k) := by
  refine ⟨?_, ?_, H.small⟩
  · rw [← List.drop_drop, H.drop]
  · have := H.len; omega
theorem P_skip {p k : Nat} : P (p + k) 0 = P p k := by unfold P; rfl
noncomputable def outA (r : List D) (as : List (List Nat × Option D)) : List D := as.foldl (fun r a => pushA r a.2) r
noncomputable def textA (as : List (List Nat × Option D)) : List Nat := as.flatMap (·.1)
theorem zkD {r : List D} {a : Option D} (h : GoodL r) (ha : ∀ d, a = some d → GoodD d ∨ d = .tok 0) : GoodL (pushA r a) := by
  unfold pushA
  cases a with
  | none =>
    simp only
    split
    · exact h
    · intro d hd
      rcases List.mem_append.mp hd with hd | hd
      · exact h d hd
      · exact .inr (List.mem_singleton.mp hd)
  | some d0 =>
    intro d hd
    rcases List.mem_append.mp hd with hd | hd
    · exact h d hd
    · rw [List.mem_singleton.mp hd]; exact ha d0 rfl
theorem zlt {r : List D} {a : Option D} : (pushA r a).length ≤ r.length + 1 := by
  unfold pushA
  cases a with
  | none => simp only; split <;> simp
  | some d => simp
end Mine
end P5x
section P6x
open PySem PySem.StrLaws PySem.Builtin PySem.Builtin.Str
namespace Mine
theorem zdd {a : List Nat} {c : Nat} : opF .startswith [.str a, .str [c]] = some (.val (.bool (decide (a.head? = some c)))) := by
  show some (R.val (.bool (Txt.startswith ⟨a.toArray⟩ ⟨[c].toArray⟩))) = _
  rw [zi9]
theorem zeg {a : List Nat} {c : Nat} : opF .endswith [.str a, .str [c]] = some (.val (.bool (decide (a.getLast? = some c)))) := by
  show some (R.val (.bool (Txt.endswith ⟨a.toArray⟩ ⟨[c].toArray⟩))) = _
  rw [zmb]
theorem zj3 {a b : List Nat} (h : a.length + b.length ≤ lim) : opF .add [.str a, .str b] = some (.val (.str (a ++ b))) := by
  show (if a.length + b.length ≤ lim then some (R.val (.str (a ++ b))) else none) = _
  rw [if_pos h]
theorem zj2 {l : List Nat} : opF .len [.str l] = some (.val (.int (l.length : Int))) := rfl
theorem zj5 {a b : Int} : opF .add [.int a, .int b] = some (.val (.int (a + b))) := rfl
section
variable {fns : Nat → Option Fn}
theorem ziR (h2 : fns 2 = some fn_fspath) (m : Nat) (l : List Nat) : callF fns (m + 1) 2 [.str l] = some (.str l) := by
  refine zfh h2 (ρ := [.val (.str l), .unset, .unset, .unset]) rfl ?_
  show ∃ ρ', ex (callF fns m) s_fspath _ = _
  unfold s_fspath
  exact ⟨_, R_seq (zaj (d := .ty "str") rfl rfl) (zal (R_seq (R_ite (t := true) rfl (R_tt (R_seq (R_ret (d := .str l) rfl) zaC))) zaC))⟩
theorem zkV (h3 : fns 3 = some fn_get_sep) (m : Nat) (l : List Nat) : callF fns (m + 1) 3 [.str l] = some (.str [47]) := by
  refine zfh h3 (ρ := [.val (.str l)]) rfl ?_
  show ∃ ρ', ex (callF fns m) s_get_sep _ = _
  unfold s_get_sep
  exact ⟨_, R_seq (R_ite (t := false) rfl (R_ff (R_seq (R_ret (d := .str [47]) rfl) zaC))) zaC⟩
end
noncomputable def join1 (p b : List Nat) : List Nat :=
  if b.head? = some 47 ∨ p = [] then b else if p.getLast? = some 47 then p ++ b else p ++ 47 :: b
noncomputable def joinP (p : List Nat) (bs : List (List Nat)) : List Nat := bs.foldl join1 p
noncomputable def jBody : S := match s_join with
  | .seq _ (.seq _ (.seq _ (.seq (.try_ (.seq (.forE _ _ b) _)) _))) => b
  | _ => .skip
section
variable {cf : Nat → List D → Option D}
theorem zlL (hf : ∀ l, cf 2 [.str l] = some (.str l)) {p b : List Nat} {a' ps : D} (hl : p.length + b.length + 1 ≤ lim) :
    ex cf jBody [.val a', .val ps, .val (.str [47]), .val (.str p), .val (.str b)] = some ([.val a', .val ps, .val (.str [47]), .val (.str (join1 p b)), .val (.str b)], .next) := by
  have hb := hf b
  have l1 : p.length + b.length ≤ lim := by omega
  have l2 : p.length + ([47] ++ b).length ≤ lim := by simp; omega
  have l3 := zj3 (a := [47]) (b := b) (by simp; omega)
  unfold jBody s_join join1
  by_cases h1 : b.head? = some 47
  · simp only [h1, true_or, if_true]
    (repeat' (first | with_reducible (first | exact za9 | apply R_seq | exact zbx | exact zbc | exact zaC | refine zal ?_ | apply R_ite | refine R_tt ?_ | refine R_ff ?_ | apply zce | apply za1 | exact zcg | apply R_wGo | refine zcf ?_ | exact zdh | exact zdg | apply R_for | exact zbV | apply za2 | refine zbQ ?_ | refine zcq ?_ | exact zdj | exact zdi | apply zaj | apply zbp | apply zaU | apply zbz | apply zcr | apply R_ret | apply za3 | apply zbw | apply zby | apply R_fz | apply R_aug) | (((try simp (config := {failIfUnchanged := false}) only [zcx, zcO, zc7, zbq, zaG, zaL, zaB, zbh, zcb, zbE, zaT, za7, zbi, zb1, zbs, zbe, za0, zbr, zaY, zaZ, zaK, zaR, zbb, zaX, zaA, zaO, zba, fzAll, ownAt, Mine.R.ds, Mine.R.fz, Mine.D.truth, List.map_cons, List.map_nil, List.getElem?_cons_zero, List.getElem?_cons_succ, List.getElem?_nil, Option.map_some, Option.map_none, List.set_cons_zero, List.set_cons_succ, List.getElem?_set, List.length_set, Nat.reduceLT, eq_str, ne_str, zbu, zbT, List.cons.injEq, and_true, and_false, true_and, false_and, Nat.reduceEqDiff, decide_true, decide_false, reduceCtorEq, Bool.not_true, Bool.not_false, Nat.reduceAdd, List.isEmpty_cons, List.isEmpty_nil, Nat.reduceLeDiff, Nat.zero_le, Option.isSome_some, Option.isSome_none, zbI, List.all_cons, List.all_nil, zaH, zaI, zaP, zbv, Bool.and_true, Bool.true_and, reduceIte, List.mem_cons, List.not_mem_nil, or_false, false_or, or_true, true_or, itemsOf, Option.bind_some, compGo, zbS, o_len, zj2, o_sub, o_neg, zj5, zdd, zeg, List.length_cons, List.length_nil, Nat.zero_add, *]) <;> rfl)) | (show (_ : Nat) < lim; decide) | decide))
  · by_cases h2 : p = []
    · subst h2
      simp only [h1, or_true, if_true]
      (repeat' (first | with_reducible (first | exact za9 | apply R_seq | exact zbx | exact zbc | exact zaC | refine zal ?_ | apply R_ite | refine R_tt ?_ | refine R_ff ?_ | apply zce | apply za1 | exact zcg | apply R_wGo | refine zcf ?_ | exact zdh | exact zdg | apply R_for | exact zbV | apply za2 | refine zbQ ?_ | refine zcq ?_ | exact zdj | exact zdi | apply zaj | apply zbp | apply zaU | apply zbz | apply zcr | apply R_ret | apply za3 | apply zbw | apply zby | apply R_fz | apply R_aug) | (((try simp (config := {failIfUnchanged := false}) only [zcx, zcO, zc7, zbq, zaG, zaL, zaB, zbh, zcb, zbE, zaT, za7, zbi, zb1, zbs, zbe, za0, zbr, zaY, zaZ, zaK, zaR, zbb, zaX, zaA, zaO, zba, fzAll, ownAt, Mine.R.ds, Mine.R.fz, Mine.D.truth, List.map_cons, List.map_nil, List.getElem?_cons_zero, List.getElem?_cons_succ, List.getElem?_nil, Option.map_some, Option.map_none, List.set_cons_zero, List.set_cons_succ, List.getElem?_set, List.length_set, Nat.reduceLT, eq_str, ne_str, zbu, zbT, List.cons.injEq, and_true, and_false, true_and, false_and, Nat.reduceEqDiff, decide_true, decide_false, reduceCtorEq, Bool.not_true, Bool.not_false, Nat.reduceAdd, List.isEmpty_cons, List.isEmpty_nil, Nat.reduceLeDiff, Nat.zero_le, Option.isSome_some, Option.isSome_none, zbI, List.all_cons, List.all_nil, zaH, zaI, zaP, zbv, Bool.and_true, Bool.true_and, reduceIte, List.mem_cons, List.not_mem_nil, or_false, false_or, or_true, true_or, itemsOf, Option.bind_some, compGo, zbS, o_len, zj2, o_sub, o_neg, zj5, zdd, zeg, List.length_cons, List.length_nil, Nat.zero_add, *]) <;> rfl)) | (show (_ : Nat) < lim; decide) | decide))
    · have h2' : p.isEmpty = false := by cases p <;> first | rfl | exact absurd rfl h2
      by_cases h3 : p.getLast? = some 47
      · simp only [h1, h2, or_self, if_false, h3, if_true]
        (repeat' (first | with_reducible (first | exact za9 | apply R_seq | exact zbx | exact zbc | exact zaC | refine zal ?_ | apply R_ite | refine R_tt ?_ | refine R_ff ?_ | apply zce | apply za1 | exact zcg | apply R_wGo | refine zcf ?_ | exact zdh | exact zdg | apply R_for | exact zbV | apply za2 | refine zbQ ?_ | refine zcq ?_ | exact zdj | exact zdi | apply zaj | apply zbp | apply zaU | apply zbz | apply zcr | apply R_ret | apply za3 | apply zbw | apply zby | apply R_fz | apply R_aug) | (((try simp (config := {failIfUnchanged := false}) only [zcx, zcO, zc7, zbq, zaG, zaL, zaB, zbh, zcb, zbE, zaT, za7, zbi, zb1, zbs, zbe, za0, zbr, zaY, zaZ, zaK, zaR, zbb, zaX, zaA, zaO, zba, fzAll, ownAt, Mine.R.ds, Mine.R.fz, Mine.D.truth, List.map_cons, List.map_nil, List.getElem?_cons_zero, List.getElem?_cons_succ, List.getElem?_nil, Option.map_some, Option.map_none, List.set_cons_zero, List.set_cons_succ, List.getElem?_set, List.length_set, Nat.reduceLT, eq_str, ne_str, zbu, zbT, List.cons.injEq, and_true, and_false, true_and, false_and, Nat.reduceEqDiff, decide_true, decide_false, reduceCtorEq, Bool.not_true, Bool.not_false, Nat.reduceAdd, List.isEmpty_cons, List.isEmpty_nil, Nat.reduceLeDiff, Nat.zero_le, Option.isSome_some, Option.isSome_none, zbI, List.all_cons, List.all_nil, zaH, zaI, zaP, zbv, Bool.and_true, Bool.true_and, reduceIte, List.mem_cons, List.not_mem_nil, or_false, false_or, or_true, true_or, itemsOf, Option.bind_some, compGo, zbS, o_len, zj2, o_sub, o_neg, zj5, zdd, zeg, List.length_cons, List.length_nil, Nat.zero_add, *]) <;> rfl)) | (show (_ : Nat) < lim; decide) | decide))
      · simp only [h1, h2, or_self, if_false, h3]
        (repeat' (first | with_reducible (first | exact za9 | apply R_seq | exact zbx | exact zbc | exact zaC | refine zal ?_ | apply R_ite | refine R_tt ?_ | refine R_ff ?_ | apply zce | apply za1 | exact zcg | apply R_wGo | refine zcf ?_ | exact zdh | exact zdg | apply R_for | exact zbV | apply za2 | refine zbQ ?_ | refine zcq ?_ | exact zdj | exact zdi | apply zaj | apply zbp | apply zaU | apply zbz | apply zcr | apply R_ret | apply za3 | apply zbw | apply zby | apply R_fz | apply R_aug) | (((try simp (config := {failIfUnchanged := false}) only [zcx, zcO, zc7, zbq, zaG, zaL, zaB, zbh, zcb, zbE, zaT, za7, zbi, zb1, zbs, zbe, za0, zbr, zaY, zaZ, zaK, zaR, zbb, zaX, zaA, zaO, zba, fzAll, ownAt, Mine.R.ds, Mine.R.fz, Mine.D.truth, List.map_cons, List.map_nil, List.getElem?_cons_zero, List.getElem?_cons_succ, List.getElem?_nil, Option.map_some, Option.map_none, List.set_cons_zero, List.set_cons_succ, List.getElem?_set, List.length_set, Nat.reduceLT, eq_str, ne_str, zbu, zbT, List.cons.injEq, and_true, and_false, true_and, false_and, Nat.reduceEqDiff, decide_true, decide_false, reduceCtorEq, Bool.not_true, Bool.not_false, Nat.reduceAdd, List.isEmpty_cons, List.isEmpty_nil, Nat.reduceLeDiff, Nat.zero_le, Option.isSome_some, Option.isSome_none, zbI, List.all_cons, List.all_nil, zaH, zaI, zaP, zbv, Bool.and_true, Bool.true_and, reduceIte, List.mem_cons, List.not_mem_nil, or_false, false_or, or_true, true_or, itemsOf, Option.bind_some, compGo, zbS, o_len, zj2, o_sub, o_neg, zj5, zdd, zeg, List.length_cons, List.length_nil, Nat.zero_add, *]) <;> rfl)) | (show (_ : Nat) < lim; decide) | decide))
theorem zlO (p b : List Nat) : (join1 p b).length ≤ p.length + b.length + 1 := by
  unfold join1
  split
  · omega
  · split <;> simp <;> omega
noncomputable def lenS (bs : List (List Nat)) : Nat := (bs.map fun b => b.length + 1).sum
theorem ziO (hf : ∀ l, cf 2 [.str l] = some (.str l)) {a' ps : D} : ∀ (bs : List (List Nat)) (p : List Nat) (j4 : Slot), p.length + lenS bs ≤ lim →
    ∃ j, forGo (put1 4) (ex cf jBody) (bs.map .str) [.val a', .val ps, .val (.str [47]), .val (.str p), j4] = some ([.val a', .val ps, .val (.str [47]), .val (.str (joinP p bs)), j], .next)
  | [], p, j4, _ => ⟨j4, rfl⟩
  | b :: bs, p, j4, h => by
    have h' : p.length + (b.length + 1 + lenS bs) ≤ lim := by
      unfold lenS at h ⊢
      rw [List.map_cons, List.sum_cons] at h
      exact h
    have h2 := zlO p b
    obtain ⟨j, hj⟩ := ziO hf (a' := a') (ps := ps) bs (join1 p b) (.val (.str b)) (by omega)
    refine ⟨j, za2 (st := put1 4) (d := .str b) rfl (zlL hf (p := p) (b := b) (by omega)) (zbQ hj)⟩
end
section
variable {fns : Nat → Option Fn}
theorem join_ok (h2 : fns 2 = some fn_fspath) (h3 : fns 3 = some fn_get_sep) (h4 : fns 4 = some fn_join) (m : Nat) {a : List Nat} {bs : List (List Nat)} (h : a.length + lenS bs ≤ lim) (hn : bs.length < lim) :
    callF fns (m + 2) 4 (.str a :: bs.map .str) = some (.str (joinP a bs)) := by
  have hb : bindD fn_join (.str a :: bs.map .str) = some [.val (.str a), .val (.tup (bs.map .str)), .unset, .unset, .unset] := by
    unfold bindD fn_join
    simp only [if_true]
    rw [if_pos ⟨by simp, by simp; omega⟩]
    rfl
  refine zfh h4 hb ?_
  show ∃ ρ', ex (callF fns (m + 1)) s_join _ = _
  obtain ⟨j, hj⟩ := ziO (cf := callF fns (m + 1)) (ziR h2 m) (a' := .str a) (ps := .tup (bs.map .str)) bs a .unset h
  have f1 := ziR h2 m a
  have f2 := zkV h3 m a
  unfold s_join
  refine ⟨_, R_seq (zaj (d := .str a) ?_ rfl) (zal (R_seq (zaj (d := .str [47]) ?_ rfl) (zal (R_seq (zaj (d := .str a) rfl rfl) (zal (R_seq (R_try (R_seq (R_for ?_ hj) (zal za9))) (zal (R_seq (R_ret (d := .str (joinP a bs)) rfl) zaC))))))))⟩
  · simp only [zcx, zaB, zbh, zcb, zbE, zaT, za7, zbi, zb1, zbs, zbe, za0, zbr, zaY, zaZ, zaK, zaR, zbb, zaX, zaA, zaO, zba, List.getElem?_cons_zero, fzAll, R.fz, f1, Option.map_some, zbq]
  · simp only [zcx, zaB, zbh, zcb, zbE, zaT, za7, zbi, zb1, zbs, zbe, za0, zbr, zaY, zaZ, zaK, zaR, zbb, zaX, zaA, zaO, zba, List.getElem?_cons_zero, List.set_cons_zero, fzAll, R.fz, f2, Option.map_some, zbq]
  · rfl
end
end Mine
end P6x
section P7x
open PySem PySem.StrLaws PySem.Builtin PySem.Builtin.Str
namespace Mine
theorem zcN {n : Nat} (h : n ≤ 1000000) : small (n : Int) = true := by
  unfold small
  simp only [Bool.and_eq_true, decide_eq_true_eq]
  omega
section
variable {fns : Nat → Option Fn}
end
end Mine
end P7x
section P8x
open PySem PySem.StrLaws PySem.Builtin PySem.Builtin.Str
namespace Mine
theorem o_mod {n k : Nat} (hk : k ≠ 0) : opF .mod [.int (n : Int), .int (k : Int)] = some (.val (.int ((n % k : Nat) : Int))) := by
  show (if (k : Int) = 0 then none else some (R.val (.int (Int.fmod (n : Int) (k : Int))))) = _
  rw [if_neg (by omega), Int.fmod_eq_emod_of_nonneg _ (by omega)]
  rfl
theorem o_div {n k : Nat} (hk : k ≠ 0) : opF .fdiv [.int (n : Int), .int (k : Int)] = some (.val (.int ((n / k : Nat) : Int))) := by
  show (if (k : Int) = 0 then none else some (R.val (.int (Int.fdiv (n : Int) (k : Int))))) = _
  rw [if_neg (by omega), Int.fdiv_eq_ediv_of_nonneg _ (by omega)]
  rfl
theorem zh1 {l : List D} {k : Nat} {d : D} (h : l[k]? = some d) (hk : k ≤ 1000000) : opF .index [.tup l, .int (k : Int)] = some (.val d) := by
  show (if small (k : Int) = true then (match place (k : Int) l.length with | some k => (l[k]?).map R.val | none => none) else none) = _
  rw [if_pos (zcN hk)]
  unfold place
  have : k < l.length := (List.getElem?_eq_some_iff.mp h).1
  rw [if_pos (by omega), if_pos (by omega)]
  simp only [Int.toNat_natCast, h, Option.map_some]
theorem ze0 {l : List D} {k : Nat} {d : D} (h : l[k]? = some d) (hk : k ≤ 1000000) : opF .index [.list l, .int (k : Int)] = some (.val d) := by
  show (if small (k : Int) = true then (match place (k : Int) l.length with | some k => (l[k]?).map R.val | none => none) else none) = _
  rw [if_pos (zcN hk)]
  unfold place
  have : k < l.length := (List.getElem?_eq_some_iff.mp h).1
  rw [if_pos (by omega), if_pos (by omega)]
  simp only [Int.toNat_natCast, h, Option.map_some]
theorem zfe {cf : Nat → List D → Option D} {i : Nat} {b : S} {I : Nat → List Slot → Prop} {a : Nat} : ∀ {m : Nat} {ρ : List Slot}, I a ρ → (∀ k ρ, a ≤ k → k < a + m → I k ρ → ∃ ρ' o, ex cf b (ρ.set i (.val (.int (k : Int)))) = some (ρ', o) ∧ (o = .next ∨ o = .cont) ∧ I (k + 1) ρ') →
    ∃ ρ', forGo (put1 i) (ex cf b) ((List.range' a m).map fun (k : Nat) => .int (k : Int)) ρ = some (ρ', .next) ∧ I (a + m) ρ' := by
  intro m
  induction m generalizing a with
  | zero => intro ρ h0 _; exact ⟨ρ, rfl, h0⟩
  | succ m ih =>
    intro ρ h0 hs
    obtain ⟨ρ1, o, e1, ho, h1⟩ := hs a ρ (Nat.le_refl _) (by omega) h0
    obtain ⟨ρ2, e2, h2⟩ := ih (a := a + 1) h1 fun k ρ hk1 hk2 hI => hs k ρ (by omega) (by omega) hI
    refine ⟨ρ2, ?_, by rw [show a + (m + 1) = a + 1 + m by omega]; exact h2⟩
    rw [List.range'_succ, List.map_cons]
    refine za2 (st := put1 i) rfl e1 ?_
    rcases ho with rfl | rfl
    · exact zbQ e2
    · exact zcq e2
theorem zla {n a : Nat} : (upTo n (a : Int) 1).map D.int = (List.range' a n).map fun (k : Nat) => .int (k : Int) := by
  unfold upTo
  rw [List.map_map, List.range'_eq_map_range, List.map_map]
  apply List.map_congr_left
  intro k _
  simp
theorem zls {n : Nat} (h : n ≤ 1000000) : opRange [.int (n : Int)] = some ((List.range' 0 n).map fun (k : Nat) => .int (k : Int)) := by
  show (if (small (n : Int) && decide ((n : Int) ≤ 1000000)) = true then some (rangeL 0 (n : Int)) else none) = _
  rw [if_pos (by rw [zcN h]; exact decide_eq_true (Int.ofNat_le.mpr h))]
  unfold rangeL
  have : ((n : Int) - 0).toNat = n := by rw [Int.sub_zero]; rfl
  rw [this]
  exact congrArg some (zla (a := 0))
theorem zlr {a n : Nat} (ha : a ≤ 1000000) (h : n ≤ 1000000) : opRange [.int (a : Int), .int (n : Int)] = some ((List.range' a (n - a)).map fun (k : Nat) => .int (k : Int)) := by
  show (if (small (a : Int) && small (n : Int) && decide ((n : Int) - (a : Int) ≤ 1000000)) = true then some (rangeL (a : Int) (n : Int)) else none) = _
  rw [if_pos (by rw [zcN h, zcN ha]; exact decide_eq_true (Int.le_trans (Int.sub_le_self _ (Int.natCast_nonneg a)) (Int.ofNat_le.mpr h)))]
  unfold rangeL
  have : ((n : Int) - (a : Int)).toNat = n - a := Int.toNat_sub n a
  rw [this]
  exact congrArg some zla
theorem zgK {a b : List D} (h : a.length + b.length ≤ lim) : opF .add [.list a, .list b] = some (.own (a ++ b)) := by
  show (if a.length + b.length ≤ lim then some (R.own (a ++ b)) else none) = _
  rw [if_pos h]
theorem zmX {cf : Nat → List D → Option D} {i : Nat} {it c e : X} {ρ : List Slot} {items l : List D} (h : ev cf it ρ = some [.val (.list items)]) (hg : compGo (fun d => turnD (ev cf c (ρ.set i (.val d))) (ev cf e (ρ.set i (.val d)))) items = some l) :
    ev cf (.comp i it c e) ρ = some [.own l] := by
  rw [zaZ]
  simp only [h, hg, Option.map_some]
theorem zmB {α β : Type} (f : α → β) (l : List α) (lo hi st : Option Int) : pick (l.map f) lo hi st = (pick l lo hi st).map f := by
  unfold pick
  rw [List.length_map, List.map_filterMap]
  congr 1
  funext k
  rw [List.getElem?_map]
theorem zhr : ∀ l : List Int, toInts (l.map D.int) = some l
  | [] => rfl
  | i :: l => by
    rw [List.map_cons]
    unfold toInts
    rw [zhr l]; rfl
theorem o_sumi {l : List Int} : opF .sum [.list (l.map .int)] = some (.val (.int l.sum)) := by
  show (toInts (l.map D.int)).map (fun is => R.val (.int is.sum)) = _
  rw [zhr]; rfl
theorem o_absi {i : Int} : opF .abs [.int i] = some (.val (.int (i.natAbs : Int))) := rfl
theorem zmJ {ns : List Int} {k n : Nat} (hk : k ≤ 1000000) (hn : n ≤ 1000000) (h0 : n ≠ 0) : opF .slice3 [.list (ns.map .int), .int (k : Int), .none, .int (n : Int)] = some (.own ((pick ns (some (k : Int)) none (some (n : Int))).map .int)) := by
  have e : partD (.int (k : Int)) = some (some (k : Int)) := by
    show (if small (k : Int) = true then some (some (k : Int)) else none) = _
    rw [if_pos (zcN hk)]
  show (match partD (.int (k : Int)), partD .none with
    | some lo, some hi => if (n : Int) ≠ 0 ∧ small (n : Int) then some (R.own (pick (ns.map D.int) lo hi (some (n : Int)))) else none
    | _, _ => none) = _
  rw [e]
  show (if (n : Int) ≠ 0 ∧ small (n : Int) then some (R.own (pick (ns.map D.int) (some (k : Int)) none (some (n : Int)))) else none) = _
  rw [if_pos ⟨by omega, zcN hn⟩, zmB]
end Mine
end P8x
section PVx
open PySem PySem.StrLaws PySem.Builtin PySem.Builtin.Str
namespace Mine
section
variable {cf : Nat → List D → Option D} {ρ : List Slot} {a b c : R}
theorem zaw {x xs : X} {rs : List R} (h1 : ev cf x ρ = some [a]) (h2 : ev cf xs ρ = some rs) : ev cf (.cons x xs) ρ = some (a :: rs) := by rw [zaT, h1, h2]; rfl
theorem V_op {f : Op} {xs : X} {rs : List R} {r : R} (h1 : ev cf xs ρ = some rs) (h : opF f (rs.map R.ds) = some r) : ev cf (.op f xs) ρ = some [r] := by rw [zcb, h1]; simp only [h]; rfl
theorem V_op1 {f : Op} {x : X} {r : R} (h1 : ev cf x ρ = some [a]) (h : opF f [a.ds] = some r) : ev cf (.op f (.cons x .nil)) ρ = some [r] := V_op (zaw h1 rfl) h
theorem V_op2 {f : Op} {x y : X} {r : R} (h1 : ev cf x ρ = some [a]) (h2 : ev cf y ρ = some [b]) (h : opF f [a.ds, b.ds] = some r) : ev cf (.op f (.cons x (.cons y .nil))) ρ = some [r] := V_op (zaw h1 (zaw h2 rfl)) h
theorem V_op3 {f : Op} {x y z : X} {r : R} (h1 : ev cf x ρ = some [a]) (h2 : ev cf y ρ = some [b]) (h3 : ev cf z ρ = some [c]) (h : opF f [a.ds, b.ds, c.ds] = some r) : ev cf (.op f (.cons x (.cons y (.cons z .nil)))) ρ = some [r] := V_op (zaw h1 (zaw h2 (zaw h3 rfl))) h
theorem zcz {f : Nat} {xs : X} {rs : List R} {ds : List D} {d : D} (h1 : ev cf xs ρ = some rs) (h2 : fzAll rs = some ds) (h : cf f ds = some d) : ev cf (.call f xs) ρ = some [.val d] := by rw [za0, h1]; simp only [h2, h]; rfl
theorem zkm {x y : X} (h1 : ev cf x ρ = some [.val (.bool false)]) : ev cf (.and x y) ρ = some [.val (.bool false)] := by rw [zbi, h1]; rfl
theorem zkl {x y : X} (h1 : ev cf x ρ = some [.val (.bool true)]) (h2 : ev cf y ρ = some [a]) : ev cf (.and x y) ρ = some [a] := by rw [zbi, h1]; exact h2
theorem V_and {x y : X} {p q : Bool} (h1 : ev cf x ρ = some [.val (.bool p)]) (h2 : p = true → ev cf y ρ = some [.val (.bool q)]) : ev cf (.and x y) ρ = some [.val (.bool (p && q))] := by
  cases p
  · exact zkm h1
  · exact zkl h1 (h2 rfl)
theorem zmZ {x y z : X} (h1 : ev cf x ρ = some [.val (.bool true)]) (h2 : ev cf y ρ = some [a]) : ev cf (.ite x y z) ρ = some [a] := by rw [zbe, h1]; exact h2
theorem zm0 {x y z : X} (h1 : ev cf x ρ = some [.val (.bool false)]) (h2 : ev cf z ρ = some [a]) : ev cf (.ite x y z) ρ = some [a] := by rw [zbe, h1]; exact h2
theorem zfX {x : X} {d : D} {l : List D} (h1 : ev cf x ρ = some [a]) (h2 : a.fz = some d) (h3 : itemsOf d = some l) : ev cf (.seqI x) ρ = some [.val (.list l)] := by rw [zaX, h1]; simp only [h2, h3]; rfl
theorem zem {xs : X} {rs : List R} {l : List D} (h1 : ev cf xs ρ = some rs) (h : opRange (rs.map R.ds) = some l) : ev cf (.rangeI xs) ρ = some [.val (.list l)] := by rw [zaA, h1]; simp only [h]; rfl
theorem E_of {x : X} {d : D} (h : ev cf x ρ = some [a]) (h2 : a.fz = some d) : ev1 cf x ρ = some d := by rw [zcx, h]; exact h2
theorem T_of {x : X} {t : Bool} (h : ev cf x ρ = some [.val (.bool t)]) : evT cf x ρ = some t := by rw [zcO, h]; rfl
theorem I_of {x : X} {l : List D} (h : ev cf x ρ = some [.val (.list l)]) : evI cf x ρ = some l := by rw [zc7, h]; rfl
theorem zdQ {α : Type} {f : D → Option (Option D)} {g v : α → D} {p : α → Bool} : ∀ {l : List α}, (∀ a ∈ l, f (g a) = some (if p a then some (v a) else none)) → compGo f (l.map g) = some ((l.filter p).map v)
  | [], _ => rfl
  | a :: l, h => by
    rw [List.map_cons]
    unfold compGo
    rw [h a List.mem_cons_self, zdQ fun b hb => h b (List.mem_cons_of_mem _ hb)]
    cases e : p a
    · rw [List.filter_cons_of_neg (by rw [e]; exact Bool.false_ne_true)]; rfl
    · rw [List.filter_cons_of_pos e]; rfl
theorem zgv {p : Bool} {x : Option (List R)} {y : Option (List R)} {d : D} {r : R} (h1 : x = some [.val (.bool p)]) (h2 : p = true → y = some [r]) (h3 : r.fz = some d) : turnD x y = some (if p then some d else none) := by
  rw [h1]
  cases p
  · rfl
  · rw [h2 rfl]
    show r.fz.map some = _
    rw [h3]; rfl
theorem zng {α : Type} {i : Nat} {it cd e : X} {l : List α} {g v : α → D} {p : α → Bool} (h : ev cf it ρ = some [.val (.list (l.map g))])
    (hg : ∀ a ∈ l, turnD (ev cf cd (ρ.set i (.val (g a)))) (ev cf e (ρ.set i (.val (g a)))) = some (if p a then some (v a) else none)) : ev cf (.comp i it cd e) ρ = some [.own ((l.filter p).map v)] :=
  zmX h (zdQ hg)
theorem zjQ {α : Type} {i j : Nat} {it cd e : X} {l : List α} {g1 g2 v : α → D} {p : α → Bool} (h : ev cf it ρ = some [.val (.list (l.map fun a => .tup [g1 a, g2 a]))])
    (hg : ∀ a ∈ l, turnD (ev cf cd ((ρ.set i (.val (g1 a))).set j (.val (g2 a)))) (ev cf e ((ρ.set i (.val (g1 a))).set j (.val (g2 a)))) = some (if p a then some (v a) else none)) : ev cf (.comp2 i j it cd e) ρ = some [.own ((l.filter p).map v)] := by
  rw [zaK, h]
  simp only
  rw [zdQ hg]; rfl
end
noncomputable abbrev Nm := List (List Nat)
noncomputable def wd4 : List (List Nat) := [[97], [98], [46, 97], [97, 98]]
theorem zbU {α β : Type} {l : List α} {f g : α → β} (h : l.map f = l.map g) {a : α} (ha : a ∈ l) : f a = g a := List.map_inj_left.mp h a ha
noncomputable def upd (f : Nat → Slot) (i : Nat) (v : Slot) : Nat → Slot := fun k => if k = i then v else f k
inductive LV (l : List D) : Slot → Prop
  | own : LV l (.own l)
  | val : LV l (.val (.list l))
noncomputable def NA (f : Nat → Slot) : Prop := ∀ i k, appOK k (f i) = true
theorem NA.upd {f : Nat → Slot} (h : NA f) {i : Nat} {v : Slot} (hv : ∀ k, appOK k v = true) : NA (upd f i v) := by
  intro j k
  unfold Mine.upd
  split
  · exact hv k
  · exact h j k
section
variable {cf : Nat → List D → Option D} {f : Nat → Slot}
theorem V_v {ρ : List Slot} {i : Nat} {s : Slot} {d : D} (e : ρ[i]? = some s) (h : s = .val d) : ev cf (.var i) ρ = some [.val d] := by rw [zbh, e, h]
theorem V_compT {ρ : List Slot} {α : Type} {i : Nat} {it e : X} {l : List α} {g v : α → D} (h : ev cf it ρ = some [.val (.list (l.map g))])
    (hg : ∀ a ∈ l, ∃ r, ev cf e (ρ.set i (.val (g a))) = some [r] ∧ r.fz = some (v a)) : ev cf (.comp i it (.const (.bool true)) e) ρ = some [.own (l.map v)] := by
  have := zng (cf := cf) (i := i) (cd := .const (.bool true)) (e := e) (p := fun _ => true) (v := v) h fun a ha => by
    obtain ⟨r, h1, h2⟩ := hg a ha
    exact zgv (p := true) (d := v a) rfl (fun _ => h1) h2
  rw [List.filter_eq_self.mpr fun _ _ => rfl] at this
  exact this
end
noncomputable def nI (i : Nat) : D := .int (i : Int)
theorem zmn {α : Type} {β : Type} {g : α → β} {l : List α} {i : Nat} (h : i < l.length) (d : α) : (l.map g)[i]? = some (g (l.getD i d)) := by
  rw [List.getElem?_map, List.getD_eq_getElem?_getD, List.getElem?_eq_getElem h]; rfl
theorem zgo {α : Type} {l : List α} {i : Nat} (h : i < l.length) (d : α) : l.getD i d ∈ l := by
  rw [List.getD_eq_getElem?_getD, List.getElem?_eq_getElem h]; exact List.getElem_mem _
theorem zc3 {n : Nat} (h : n ≤ 1000000) : opRange [nI n] = some ((List.range' 0 n).map nI) := zls h
theorem zj4 {a b : Nat} : opF .add [.int (a : Int), .int (b : Int)] = some (.val (.int ((a + b : Nat) : Int))) := by
  show some (R.val (.int ((a : Int) + (b : Int)))) = _
  congr 3
theorem zjq {α : Type} {f : α → D} {k : Nat} (h : ∀ a, (f a).ok k = true) : ∀ l : List α, D.oks k (l.map f) = true
  | [] => rfl
  | a :: l => by
    rw [List.map_cons]
    unfold D.oks
    rw [h a, zjq h l]; rfl
theorem zmo {α : Type} {f : α → D} {y : D} {P : α → Bool} (h : ∀ a, PyData.eqv (f a).toPy y.toPy = P a) : ∀ l : List α, ((D.toPys (l.map f)).any fun x => PyData.eqv x y.toPy) = l.any P
  | [] => rfl
  | a :: l => by
    rw [List.map_cons]
    unfold D.toPys
    rw [List.any_cons, h a, zmo h l]; rfl
theorem in_map {α : Type} {f : α → D} {y : D} {P : α → Bool} {l : List α} (ho : ∀ a, (f a).ok 8 = true) (hy : y.ok 9 = true) (h : ∀ a, PyData.eqv (f a).toPy y.toPy = P a) : inD y (.list (l.map f)) = some (l.any P) := by
  show (if (D.oks 8 (l.map f) && y.ok 9) = true then some ((D.toPys (l.map f)).any fun x => PyData.eqv x y.toPy) else none) = _
  rw [zjq ho, hy, zmo h]; rfl
theorem zld {l : List Nat} {k : Nat} (h : k < l.length) (hk : k ≤ 1000000) : opF .index [.tup (l.map fun (n : Nat) => .int (n : Int)), .int (k : Int)] = some (.val (.int (l.getD k 0 : Int))) := by
  refine zh1 ?_ hk
  rw [List.getElem?_map, List.getD_eq_getElem?_getD, List.getElem?_eq_getElem h]; rfl
theorem eqv_int {a b : Int} : PyData.eqv (D.int a).toPy (D.int b).toPy = decide (a = b) := by
  unfold D.toPy
  simp [PyData.eqv]
  rfl
theorem zlT {l : List Nat} {n : Nat} : opF .in_ [nI n, .list (l.map nI)] = some (.val (.bool (decide (n ∈ l)))) := by
  show (inD (nI n) (.list (l.map nI))).map (fun x => R.val (.bool x)) = _
  rw [in_map (f := nI) (y := nI n) (P := fun (a : Nat) => decide ((a : Int) = (n : Int))) (fun _ => rfl) rfl fun a => eqv_int]
  have : (l.any fun (a : Nat) => decide ((a : Int) = (n : Int))) = decide (n ∈ l) := by
    rw [Bool.eq_iff_iff, List.any_eq_true, decide_eq_true_eq]
    exact ⟨fun ⟨a, h, e⟩ => Int.ofNat.inj (of_decide_eq_true e) ▸ h, fun h => ⟨n, h, decide_eq_true rfl⟩⟩
  rw [this]; rfl
end Mine
end PVx
section F10x
open PySem
namespace Mine
noncomputable def fns10 : Nat → Option Fn := fun i => ([(0, fn_escape), (1, fn_translate10), (2, fn_fspath), (3, fn_get_sep), (4, fn_join), (6, fn_dirname), (7, fn_splitroot), (9, fn_normpath10), (10, fn_abspath), (11, fn_relpath), (12, fn_commonprefix), (14, fn_law_one), (15, fn_law_takes), (17, fn_law_dressed), (34, fn_law_meant)] : List (Nat × Fn)).lookup i
end Mine
end F10x
section P9x
open PySem PySem.StrLaws PySem.Builtin PySem.Builtin.Str
namespace Mine
section
variable {fns : Nat → Option Fn}
end
section
variable {fns : Nat → Option Fn}
end
end Mine
end P9x
section P10ax
open PySem PySem.StrLaws PySem.Builtin PySem.Builtin.Str
namespace Mine
noncomputable def nx10 (l : List Nm) : List Nm := l.flatMap fun n => wd4.map fun w => n ++ [w]
noncomputable def V10 : List Nm := [[]] ++ nx10 [[]] ++ nx10 (nx10 [[]]) ++ nx10 (nx10 (nx10 [[]]))
noncomputable def C10 (w : List Nat) : List Nm := nx10 (nx10 (nx10 [[w]]))
noncomputable def U10 : List Nm := V10 ++ wd4.flatMap C10
noncomputable def pt (n : Nm) : List Nat := joinL [47] n
noncomputable def tl (n : Nm) : List Nat := 47 :: pt n
noncomputable def relR : S := (.seq (.assign 7 (.ite (.var 5) (.op .split (.cons (.var 5) (.cons (.var 3) .nil))) (.list .nil))) (.seq (.assign 8 (.ite (.var 6) (.op .split (.cons (.var 6) (.cons (.var 3) .nil))) (.list .nil))) (.seq (.assign 9 (.op .len (.cons (.call 12 (.cons (.list (.cons (.var 7) (.cons (.var 8) .nil))) .nil)) .nil))) (.seq (.assign 10 (.op .add (.cons (.op .mul (.cons (.list (.cons (.var 4) .nil)) (.cons (.op .sub (.cons (.op .len (.cons (.var 7) .nil)) (.cons (.var 9) .nil))) .nil))) (.cons (.op .slice (.cons (.var 8) (.cons (.var 9) (.cons (.const .none) .nil)))) .nil)))) (.seq (.ite (.not (.var 10)) (.seq (.ret (.var 2)) .skip) .skip) (.seq (.ret (.op .join (.cons (.var 3) (.cons (.var 10) .nil)))) .skip))))))
theorem dir10 (m : Nat) : U10.map (fun n => callF fns10 (m + 2) 6 [.str (tl n)]) = U10.map (fun n => some (.str (tl n.dropLast))) := by kernel_rfl
theorem abs10 (m : Nat) : U10.map (fun n => callF fns10 (m + 4) 10 [.str (tl n)]) = U10.map (fun n => some (.str (tl n))) := by kernel_rfl
theorem lst10 : U10.map (fun n => opF .lstrip [.str (tl n), .str [47]]) = U10.map (fun n => some (.val (.str (pt n)))) := by kernel_rfl
noncomputable def rr10 (m : Nat) (n : Nm) : List (Option Out) := (List.range n.length).map fun i => (ex (callF fns10 (m + 4)) relR [.val (.str (tl n)), .val (.str (tl (n.take i))), .val (.str [46]), .val (.str [47]), .val (.str [46, 46]), .val (.str (pt (n.take i))), .val (.str (pt n)), .unset, .unset, .unset, .unset]).map (·.2)
noncomputable def rs10 (n : Nm) : List (Option Out) := (List.range n.length).map fun i => some (.ret (.str (pt (n.drop i))))
theorem rv10 (m : Nat) : V10.map (rr10 m) = V10.map rs10 := by kernel_rfl
theorem ra10 (m : Nat) : (C10 [97]).map (rr10 m) = (C10 [97]).map rs10 := by kernel_rfl
theorem rb10 (m : Nat) : (C10 [98]).map (rr10 m) = (C10 [98]).map rs10 := by kernel_rfl
theorem rc10 (m : Nat) : (C10 [46, 97]).map (rr10 m) = (C10 [46, 97]).map rs10 := by kernel_rfl
theorem rd10 (m : Nat) : (C10 [97, 98]).map (rr10 m) = (C10 [97, 98]).map rs10 := by kernel_rfl
theorem jn10 : ∀ n ∈ V10, ∀ w ∈ wd4, joinP (tl n) [w] = tl (n ++ [w]) ∧ n ++ [w] ∈ U10 := by decide +kernel
theorem jr10 : ∀ n ∈ U10, ∀ i ∈ List.range n.length, joinP (tl (n.take i)) [pt (n.drop i)] = tl n ∧ n.take i ∈ U10 := by decide +kernel
theorem lr10 : ∀ n ∈ U10, ∀ i ∈ List.range n.length, (pt (n.drop i)).length ≤ 20 ∧ pt (n.drop i) ≠ [] := by decide +kernel
theorem len10 : ∀ n ∈ U10, n.length ≤ 4 ∧ (tl n).length ≤ 20 := by decide +kernel
theorem inV10 : ∀ n ∈ U10, n.length ≤ 3 → n ∈ V10 := by decide +kernel
theorem rel10 (m : Nat) {n : Nm} (hn : n ∈ U10) {i : Nat} (hi : i < n.length) : callF fns10 (m + 5) 11 [.str (tl n), .str (tl (n.take i))] = some (.str (pt (n.drop i))) := by
  have hb := (jr10 n hn i (List.mem_range.mpr hi)).2
  have row : rr10 m n = rs10 n := by
    rcases List.mem_append.mp hn with h | h
    · exact zbU (rv10 m) h
    · obtain ⟨w, hw, h⟩ := List.mem_flatMap.mp h
      simp only [wd4, List.mem_cons, List.not_mem_nil, or_false] at hw
      rcases hw with rfl | rfl | rfl | rfl
      · exact zbU (ra10 m) h
      · exact zbU (rb10 m) h
      · exact zbU (rc10 m) h
      · exact zbU (rd10 m) h
  have e := zbU row (List.mem_range.mpr hi)
  obtain ⟨⟨ρ', o⟩, e1, e2⟩ := Option.map_eq_some_iff.mp e
  cases e2
  have fa := zbU (abs10 m) hn
  have fb := zbU (abs10 m) hb
  have sa := zbU lst10 hn
  have sb := zbU lst10 hb
  refine zfh (fn := fn_relpath) rfl (ρ := [.val (.str (tl n)), .val (.str (tl (n.take i))), .unset, .unset, .unset, .unset, .unset, .unset, .unset, .unset, .unset]) rfl ?_
  show ∃ ρ', ex (callF fns10 (m + 4)) s_relpath _ = _
  unfold relR at e1
  unfold s_relpath
  exact ⟨ρ', R_seq (zaj (d := .str (tl n)) rfl rfl) (zal (R_seq (R_ite (t := false) rfl (R_ff za9)) (zal (R_seq (R_ite (t := false) rfl (R_ff (R_seq (zaj (d := .str [46]) rfl rfl) (zal (R_seq (zaj (d := .str [47]) rfl rfl) (zal (R_seq (zaj (d := .str [46, 46]) rfl rfl) (zal za9)))))))) (zal (R_seq (R_ite (t := false) rfl (R_ff (R_seq (zaj (d := .str (tl (n.take i))) rfl rfl) (zal za9)))) (zal
    (R_seq (R_try (R_seq (zaj (E_of (V_op2 (zcz (zaw rfl rfl) rfl fb) rfl sb) rfl) rfl) (zal (R_seq (zaj (E_of (V_op2 (zcz (zaw rfl rfl) rfl fa) rfl sa) rfl) rfl) (zal e1))))) zaC))))))))⟩
end Mine
end P10ax
section P10tx
open PySem PySem.StrLaws PySem.Builtin PySem.Builtin.Str
namespace Mine
noncomputable def tBody10 : S := match s_translate10 with
  | .seq _ (.seq _ (.seq _ (.seq (.while _ b) _))) => b
  | _ => .skip
noncomputable def tCond10 : X := match s_translate10 with
  | .seq _ (.seq _ (.seq _ (.seq (.while c _) _))) => c
  | _ => .nil
section
variable {pat v : List Nat} {I : Nat → D} {n : D} {ρ : List Slot} {cf : Nat → List D → Option D} {q : D} {r : List D} {j7 j8 j9 j10 j11 j12 j13 : Slot}
theorem zlc (H : Fx pat I n (63 :: v)) (hr : r.length < lim) (S : TState pat n q r (I 0) ρ) : ∃ ρ', ex cf tBody10 ρ = some (ρ', .next) ∧ TState pat n q (r ++ [q]) (I 1) ρ' := by
  obtain ⟨hi, hl, hg, hs, hf, ha1, ha2, ha3, hz⟩ := H
  obtain ⟨j7, j8, j9, j10, j11, j12, j13, rfl, h7, h8, h9, h10, h11, h12, h13⟩ := S
  refine ⟨?w, ?h1, ?h2⟩
  case h1 =>
    unfold tBody10 s_translate10
    (repeat' (first | with_reducible (first | exact za9 | apply R_seq | exact zbx | exact zbc | exact zaC | refine zal ?_ | apply R_ite | refine R_tt ?_ | refine R_ff ?_ | apply zce | apply za1 | exact zcg | apply R_wGo | refine zcf ?_ | exact zdh | exact zdg | apply R_for | exact zbV | apply za2 | refine zbQ ?_ | refine zcq ?_ | exact zdj | exact zdi | apply zaj | apply zbp | apply zaU | apply zbz | apply zcr | apply R_ret | apply za3 | apply zbw | apply zby | apply R_fz) | (((try simp (config := {failIfUnchanged := false}) only [zcx, zcO, zc7, zbq, zaG, zaL, zaB, zbh, zcb, zbE, zaT, za7, zbi, zb1, zbs, zbe, za0, zbr, zaY, zaZ, zaK, zaR, zbb, zaX, zaA, zaO, zba, fzAll, ownAt, Mine.R.ds, Mine.R.fz, Mine.D.truth, List.map_cons, List.map_nil, List.getElem?_cons_zero, List.getElem?_cons_succ, List.getElem?_nil, Option.map_some, Option.map_none, List.set_cons_zero, List.set_cons_succ, eq_str, ne_str, zbu, zbT, List.cons.injEq, and_true, and_false, true_and, false_and, Nat.reduceEqDiff, decide_true, decide_false, reduceCtorEq, Bool.not_true, Bool.not_false, Nat.reduceAdd, List.isEmpty_cons, List.isEmpty_nil, Nat.reduceLeDiff, Nat.zero_le, Option.isSome_some, Option.isSome_none, zbI, List.all_cons, List.all_nil, zaH, zaI, zaP, zbv, Bool.and_true, Bool.true_and, cut, List.drop_succ_cons, List.drop_zero, List.take_succ_cons, List.take_zero, Nat.reduceSub, firstAt, reduceIte, List.mem_cons, List.not_mem_nil, or_false, false_or, or_true, true_or, itemsOf, Option.bind_some, o_len, o_sub, o_neg, zcG, zdr, zdq, zdo, zdn, zcF, o_gt1, zey, zex, o_sl1, zdt, zds, zdp, zcI, zcH, List.nil_append, List.cons_append, List.length_cons, List.length_nil, Int.reduceSub, Int.reduceNeg, Int.reduceToNat, Int.toNat_zero, Int.toNat_one, Int.reduceAdd, Int.cast_ofNat_Int, Int.natCast_one, Int.natCast_zero, Int.zero_add, Nat.zero_add, List.eraseIdx_cons_succ, List.eraseIdx_cons_zero, Nat.reduceLT, compGo, zbS, repX, *]) <;> rfl)) | (show (_ : Nat) < lim; decide) | decide))
  case h2 =>
    refine ⟨_, _, _, _, _, _, _, rfl, ?_, ?_, ?_, ?_, ?_, ?_, ?_⟩ <;> first | exact zaH | exact zaI | assumption
theorem zhO (H : Fx pat I n (42 :: v)) (S : TState pat n q [] (I 0) ρ) : ∃ ρ', ex cf tBody10 ρ = some (ρ', .next) ∧ TState pat n q [.tok 0] (I 1) ρ' := by
  obtain ⟨hi, hl, hg, hs, hf, ha1, ha2, ha3, hz⟩ := H
  obtain ⟨j7, j8, j9, j10, j11, j12, j13, rfl, h7, h8, h9, h10, h11, h12, h13⟩ := S
  refine ⟨?w, ?h1, ?h2⟩
  case h1 =>
    unfold tBody10 s_translate10
    (repeat' (first | with_reducible (first | exact za9 | apply R_seq | exact zbx | exact zbc | exact zaC | refine zal ?_ | apply R_ite | refine R_tt ?_ | refine R_ff ?_ | apply zce | apply za1 | exact zcg | apply R_wGo | refine zcf ?_ | exact zdh | exact zdg | apply R_for | exact zbV | apply za2 | refine zbQ ?_ | refine zcq ?_ | exact zdj | exact zdi | apply zaj | apply zbp | apply zaU | apply zbz | apply zcr | apply R_ret | apply za3 | apply zbw | apply zby | apply R_fz) | (((try simp (config := {failIfUnchanged := false}) only [zcx, zcO, zc7, zbq, zaG, zaL, zaB, zbh, zcb, zbE, zaT, za7, zbi, zb1, zbs, zbe, za0, zbr, zaY, zaZ, zaK, zaR, zbb, zaX, zaA, zaO, zba, fzAll, ownAt, Mine.R.ds, Mine.R.fz, Mine.D.truth, List.map_cons, List.map_nil, List.getElem?_cons_zero, List.getElem?_cons_succ, List.getElem?_nil, Option.map_some, Option.map_none, List.set_cons_zero, List.set_cons_succ, eq_str, ne_str, zbu, zbT, List.cons.injEq, and_true, and_false, true_and, false_and, Nat.reduceEqDiff, decide_true, decide_false, reduceCtorEq, Bool.not_true, Bool.not_false, Nat.reduceAdd, List.isEmpty_cons, List.isEmpty_nil, Nat.reduceLeDiff, Nat.zero_le, Option.isSome_some, Option.isSome_none, zbI, List.all_cons, List.all_nil, zaH, zaI, zaP, zbv, Bool.and_true, Bool.true_and, cut, List.drop_succ_cons, List.drop_zero, List.take_succ_cons, List.take_zero, Nat.reduceSub, firstAt, reduceIte, List.mem_cons, List.not_mem_nil, or_false, false_or, or_true, true_or, itemsOf, Option.bind_some, o_len, o_sub, o_neg, zcG, zdr, zdq, zdo, zdn, zcF, o_gt1, zey, zex, o_sl1, zdt, zds, zdp, zcI, zcH, List.nil_append, List.cons_append, List.length_cons, List.length_nil, Int.reduceSub, Int.reduceNeg, Int.reduceToNat, Int.toNat_zero, Int.toNat_one, Int.reduceAdd, Int.cast_ofNat_Int, Int.natCast_one, Int.natCast_zero, Int.zero_add, Nat.zero_add, List.eraseIdx_cons_succ, List.eraseIdx_cons_zero, Nat.reduceLT, compGo, zbS, repX, *]) <;> rfl)) | (show (_ : Nat) < lim; decide) | decide))
  case h2 =>
    refine ⟨_, _, _, _, _, _, _, rfl, ?_, ?_, ?_, ?_, ?_, ?_, ?_⟩ <;> first | exact zaH | exact zaI | assumption
theorem zhN (H : Fx pat I n (42 :: v)) (S : TState pat n q (r ++ [.tok 0]) (I 0) ρ) : ∃ ρ', ex cf tBody10 ρ = some (ρ', .next) ∧ TState pat n q (r ++ [.tok 0]) (I 1) ρ' := by
  obtain ⟨hi, hl, hg, hs, hf, ha1, ha2, ha3, hz⟩ := H
  obtain ⟨j7, j8, j9, j10, j11, j12, j13, rfl, h7, h8, h9, h10, h11, h12, h13⟩ := S
  have t1 := zhp (r := r) (d := .tok 0)
  have t2 := zm9 (r := r) (d := .tok 0)
  have t3 : opF .isnot [.tok 0, .tok 0] = some (.val (.bool false)) := rfl
  refine ⟨?w, ?h1, ?h2⟩
  case h1 =>
    unfold tBody10 s_translate10
    (repeat' (first | with_reducible (first | exact za9 | apply R_seq | exact zbx | exact zbc | exact zaC | refine zal ?_ | apply R_ite | refine R_tt ?_ | refine R_ff ?_ | apply zce | apply za1 | exact zcg | apply R_wGo | refine zcf ?_ | exact zdh | exact zdg | apply R_for | exact zbV | apply za2 | refine zbQ ?_ | refine zcq ?_ | exact zdj | exact zdi | apply zaj | apply zbp | apply zaU | apply zbz | apply zcr | apply R_ret | apply za3 | apply zbw | apply zby | apply R_fz) | (((try simp (config := {failIfUnchanged := false}) only [zcx, zcO, zc7, zbq, zaG, zaL, zaB, zbh, zcb, zbE, zaT, za7, zbi, zb1, zbs, zbe, za0, zbr, zaY, zaZ, zaK, zaR, zbb, zaX, zaA, zaO, zba, fzAll, ownAt, Mine.R.ds, Mine.R.fz, Mine.D.truth, List.map_cons, List.map_nil, List.getElem?_cons_zero, List.getElem?_cons_succ, List.getElem?_nil, Option.map_some, Option.map_none, List.set_cons_zero, List.set_cons_succ, eq_str, ne_str, zbu, zbT, List.cons.injEq, and_true, and_false, true_and, false_and, Nat.reduceEqDiff, decide_true, decide_false, reduceCtorEq, Bool.not_true, Bool.not_false, Nat.reduceAdd, List.isEmpty_cons, List.isEmpty_nil, Nat.reduceLeDiff, Nat.zero_le, Option.isSome_some, Option.isSome_none, zbI, List.all_cons, List.all_nil, zaH, zaI, zaP, zbv, Bool.and_true, Bool.true_and, cut, List.drop_succ_cons, List.drop_zero, List.take_succ_cons, List.take_zero, Nat.reduceSub, firstAt, reduceIte, List.mem_cons, List.not_mem_nil, or_false, false_or, or_true, true_or, itemsOf, Option.bind_some, o_len, o_sub, o_neg, zcG, zdr, zdq, zdo, zdn, zcF, o_gt1, zey, zex, o_sl1, zdt, zds, zdp, zcI, zcH, List.nil_append, List.cons_append, List.length_cons, List.length_nil, Int.reduceSub, Int.reduceNeg, Int.reduceToNat, Int.toNat_zero, Int.toNat_one, Int.reduceAdd, Int.cast_ofNat_Int, Int.natCast_one, Int.natCast_zero, Int.zero_add, Nat.zero_add, List.eraseIdx_cons_succ, List.eraseIdx_cons_zero, Nat.reduceLT, compGo, zbS, repX, *]) <;> rfl)) | (show (_ : Nat) < lim; decide) | decide))
  case h2 =>
    refine ⟨_, _, _, _, _, _, _, rfl, ?_, ?_, ?_, ?_, ?_, ?_, ?_⟩ <;> first | exact zaH | exact zaI | assumption
theorem zhM {d : D} (hd : opF .isnot [d, .tok 0] = some (.val (.bool true))) (hr : (r ++ [d]).length < lim) (H : Fx pat I n (42 :: v)) (S : TState pat n q (r ++ [d]) (I 0) ρ) : ∃ ρ', ex cf tBody10 ρ = some (ρ', .next) ∧ TState pat n q (r ++ [d] ++ [.tok 0]) (I 1) ρ' := by
  obtain ⟨hi, hl, hg, hs, hf, ha1, ha2, ha3, hz⟩ := H
  obtain ⟨j7, j8, j9, j10, j11, j12, j13, rfl, h7, h8, h9, h10, h11, h12, h13⟩ := S
  have t1 := zhp (r := r) (d := d)
  have t2 := zm9 (r := r) (d := d)
  refine ⟨?w, ?h1, ?h2⟩
  case h1 =>
    unfold tBody10 s_translate10
    (repeat' (first | with_reducible (first | exact za9 | apply R_seq | exact zbx | exact zbc | exact zaC | refine zal ?_ | apply R_ite | refine R_tt ?_ | refine R_ff ?_ | apply zce | apply za1 | exact zcg | apply R_wGo | refine zcf ?_ | exact zdh | exact zdg | apply R_for | exact zbV | apply za2 | refine zbQ ?_ | refine zcq ?_ | exact zdj | exact zdi | apply zaj | apply zbp | apply zaU | apply zbz | apply zcr | apply R_ret | apply za3 | apply zbw | apply zby | apply R_fz) | (((try simp (config := {failIfUnchanged := false}) only [zcx, zcO, zc7, zbq, zaG, zaL, zaB, zbh, zcb, zbE, zaT, za7, zbi, zb1, zbs, zbe, za0, zbr, zaY, zaZ, zaK, zaR, zbb, zaX, zaA, zaO, zba, fzAll, ownAt, Mine.R.ds, Mine.R.fz, Mine.D.truth, List.map_cons, List.map_nil, List.getElem?_cons_zero, List.getElem?_cons_succ, List.getElem?_nil, Option.map_some, Option.map_none, List.set_cons_zero, List.set_cons_succ, eq_str, ne_str, zbu, zbT, List.cons.injEq, and_true, and_false, true_and, false_and, Nat.reduceEqDiff, decide_true, decide_false, reduceCtorEq, Bool.not_true, Bool.not_false, Nat.reduceAdd, List.isEmpty_cons, List.isEmpty_nil, Nat.reduceLeDiff, Nat.zero_le, Option.isSome_some, Option.isSome_none, zbI, List.all_cons, List.all_nil, zaH, zaI, zaP, zbv, Bool.and_true, Bool.true_and, cut, List.drop_succ_cons, List.drop_zero, List.take_succ_cons, List.take_zero, Nat.reduceSub, firstAt, reduceIte, List.mem_cons, List.not_mem_nil, or_false, false_or, or_true, true_or, itemsOf, Option.bind_some, o_len, o_sub, o_neg, zcG, zdr, zdq, zdo, zdn, zcF, o_gt1, zey, zex, o_sl1, zdt, zds, zdp, zcI, zcH, List.nil_append, List.cons_append, List.length_cons, List.length_nil, Int.reduceSub, Int.reduceNeg, Int.reduceToNat, Int.toNat_zero, Int.toNat_one, Int.reduceAdd, Int.cast_ofNat_Int, Int.natCast_one, Int.natCast_zero, Int.zero_add, Nat.zero_add, List.eraseIdx_cons_succ, List.eraseIdx_cons_zero, Nat.reduceLT, compGo, zbS, repX, *]) <;> rfl)) | (show (_ : Nat) < lim; decide) | decide))
  case h2 =>
    refine ⟨_, _, _, _, _, _, _, rfl, ?_, ?_, ?_, ?_, ?_, ?_, ?_⟩ <;> first | exact zaH | exact zaI | assumption
theorem zis {c : Nat} {e : List Nat} (c1 : ¬ c = 42) (c2 : ¬ c = 63) (c3 : ¬ c = 91) (hE : cf 0 [.str [c]] = some (.str e)) (hr : r.length < lim) (H : Fx pat I n (c :: v)) (S : TState pat n q r (I 0) ρ) : ∃ ρ', ex cf tBody10 ρ = some (ρ', .next) ∧ TState pat n q (r ++ [.str e]) (I 1) ρ' := by
  obtain ⟨hi, hl, hg, hs, hf, ha1, ha2, ha3, hz⟩ := H
  obtain ⟨j7, j8, j9, j10, j11, j12, j13, rfl, h7, h8, h9, h10, h11, h12, h13⟩ := S
  refine ⟨?w, ?h1, ?h2⟩
  case h1 =>
    unfold tBody10 s_translate10
    (repeat' (first | with_reducible (first | exact za9 | apply R_seq | exact zbx | exact zbc | exact zaC | refine zal ?_ | apply R_ite | refine R_tt ?_ | refine R_ff ?_ | apply zce | apply za1 | exact zcg | apply R_wGo | refine zcf ?_ | exact zdh | exact zdg | apply R_for | exact zbV | apply za2 | refine zbQ ?_ | refine zcq ?_ | exact zdj | exact zdi | apply zaj | apply zbp | apply zaU | apply zbz | apply zcr | apply R_ret | apply za3 | apply zbw | apply zby | apply R_fz) | (((try simp (config := {failIfUnchanged := false}) only [zcx, zcO, zc7, zbq, zaG, zaL, zaB, zbh, zcb, zbE, zaT, za7, zbi, zb1, zbs, zbe, za0, zbr, zaY, zaZ, zaK, zaR, zbb, zaX, zaA, zaO, zba, fzAll, ownAt, Mine.R.ds, Mine.R.fz, Mine.D.truth, List.map_cons, List.map_nil, List.getElem?_cons_zero, List.getElem?_cons_succ, List.getElem?_nil, Option.map_some, Option.map_none, List.set_cons_zero, List.set_cons_succ, eq_str, ne_str, zbu, zbT, List.cons.injEq, and_true, and_false, true_and, false_and, Nat.reduceEqDiff, decide_true, decide_false, reduceCtorEq, Bool.not_true, Bool.not_false, Nat.reduceAdd, List.isEmpty_cons, List.isEmpty_nil, Nat.reduceLeDiff, Nat.zero_le, Option.isSome_some, Option.isSome_none, zbI, List.all_cons, List.all_nil, zaH, zaI, zaP, zbv, Bool.and_true, Bool.true_and, cut, List.drop_succ_cons, List.drop_zero, List.take_succ_cons, List.take_zero, Nat.reduceSub, firstAt, reduceIte, List.mem_cons, List.not_mem_nil, or_false, false_or, or_true, true_or, itemsOf, Option.bind_some, o_len, o_sub, o_neg, zcG, zdr, zdq, zdo, zdn, zcF, o_gt1, zey, zex, o_sl1, zdt, zds, zdp, zcI, zcH, List.nil_append, List.cons_append, List.length_cons, List.length_nil, Int.reduceSub, Int.reduceNeg, Int.reduceToNat, Int.toNat_zero, Int.toNat_one, Int.reduceAdd, Int.cast_ofNat_Int, Int.natCast_one, Int.natCast_zero, Int.zero_add, Nat.zero_add, List.eraseIdx_cons_succ, List.eraseIdx_cons_zero, Nat.reduceLT, compGo, zbS, repX, *]) <;> rfl)) | (show (_ : Nat) < lim; decide) | decide))
  case h2 =>
    refine ⟨_, _, _, _, _, _, _, rfl, ?_, ?_, ?_, ?_, ?_, ?_, ?_⟩ <;> first | exact zaH | exact zaI | assumption
theorem zkq (H : Fx pat I n (91 :: 33 :: 97 :: 93 :: v)) (hr : r.length < lim) (S : TState pat n q r (I 0) ρ) : ∃ ρ', ex cf tBody10 ρ = some (ρ', .next) ∧ TState pat n q (r ++ [.str [91, 94, 97, 93]]) (I 4) ρ' := by
  obtain ⟨hi, hl, hg, hs, hf, ha1, ha2, ha3, hz⟩ := H
  obtain ⟨j7, j8, j9, j10, j11, j12, j13, rfl, h7, h8, h9, h10, h11, h12, h13⟩ := S
  refine ⟨?w, ?h1, ?h2⟩
  case h1 =>
    unfold tBody10 s_translate10
    (repeat' (first | with_reducible (first | exact za9 | apply R_seq | exact zbx | exact zbc | exact zaC | refine zal ?_ | apply R_ite | refine R_tt ?_ | refine R_ff ?_ | apply zce | apply za1 | exact zcg | apply R_wGo | refine zcf ?_ | exact zdh | exact zdg | apply R_for | exact zbV | apply za2 | refine zbQ ?_ | refine zcq ?_ | exact zdj | exact zdi | apply zaj | apply zbp | apply zaU | apply zbz | apply zcr | apply R_ret | apply za3 | apply zbw | apply zby | apply R_fz) | (((try simp (config := {failIfUnchanged := false}) only [zcx, zcO, zc7, zbq, zaG, zaL, zaB, zbh, zcb, zbE, zaT, za7, zbi, zb1, zbs, zbe, za0, zbr, zaY, zaZ, zaK, zaR, zbb, zaX, zaA, zaO, zba, fzAll, ownAt, Mine.R.ds, Mine.R.fz, Mine.D.truth, List.map_cons, List.map_nil, List.getElem?_cons_zero, List.getElem?_cons_succ, List.getElem?_nil, Option.map_some, Option.map_none, List.set_cons_zero, List.set_cons_succ, eq_str, ne_str, zbu, zbT, List.cons.injEq, and_true, and_false, true_and, false_and, Nat.reduceEqDiff, decide_true, decide_false, reduceCtorEq, Bool.not_true, Bool.not_false, Nat.reduceAdd, List.isEmpty_cons, List.isEmpty_nil, Nat.reduceLeDiff, Nat.zero_le, Option.isSome_some, Option.isSome_none, zbI, List.all_cons, List.all_nil, zaH, zaI, zaP, zbv, Bool.and_true, Bool.true_and, cut, List.drop_succ_cons, List.drop_zero, List.take_succ_cons, List.take_zero, Nat.reduceSub, firstAt, reduceIte, List.mem_cons, List.not_mem_nil, or_false, false_or, or_true, true_or, itemsOf, Option.bind_some, o_len, o_sub, o_neg, zcG, zdr, zdq, zdo, zdn, zcF, o_gt1, zey, zex, o_sl1, zdt, zds, zdp, zcI, zcH, List.nil_append, List.cons_append, List.length_cons, List.length_nil, Int.reduceSub, Int.reduceNeg, Int.reduceToNat, Int.toNat_zero, Int.toNat_one, Int.reduceAdd, Int.cast_ofNat_Int, Int.natCast_one, Int.natCast_zero, Int.zero_add, Nat.zero_add, List.eraseIdx_cons_succ, List.eraseIdx_cons_zero, Nat.reduceLT, compGo, zbS, repX, *]) <;> rfl)) | (show (_ : Nat) < lim; decide) | decide))
  case h2 =>
    refine ⟨_, _, _, _, _, _, _, rfl, ?_, ?_, ?_, ?_, ?_, ?_, ?_⟩ <;> first | exact zaH | exact zaI | assumption
theorem zkr (H : Fx pat I n (91 :: 46 :: 45 :: 97 :: 93 :: v)) (hr : r.length < lim) (S : TState pat n q r (I 0) ρ) : ∃ ρ', ex cf tBody10 ρ = some (ρ', .next) ∧ TState pat n q (r ++ [.str [91, 46, 45, 97, 93]]) (I 5) ρ' := by
  obtain ⟨hi, hl, hg, hs, hf, ha1, ha2, ha3, hz⟩ := H
  obtain ⟨j7, j8, j9, j10, j11, j12, j13, rfl, h7, h8, h9, h10, h11, h12, h13⟩ := S
  refine ⟨?w, ?h1, ?h2⟩
  case h1 =>
    unfold tBody10 s_translate10
    (repeat' (first | with_reducible (first | exact za9 | apply R_seq | exact zbx | exact zbc | exact zaC | refine zal ?_ | apply R_ite | refine R_tt ?_ | refine R_ff ?_ | apply zce | apply za1 | exact zcg | apply R_wGo | refine zcf ?_ | exact zdh | exact zdg | apply R_for | exact zbV | apply za2 | refine zbQ ?_ | refine zcq ?_ | exact zdj | exact zdi | apply zaj | apply zbp | apply zaU | apply zbz | apply zcr | apply R_ret | apply za3 | apply zbw | apply zby | apply R_fz) | (((try simp (config := {failIfUnchanged := false}) only [zcx, zcO, zc7, zbq, zaG, zaL, zaB, zbh, zcb, zbE, zaT, za7, zbi, zb1, zbs, zbe, za0, zbr, zaY, zaZ, zaK, zaR, zbb, zaX, zaA, zaO, zba, fzAll, ownAt, Mine.R.ds, Mine.R.fz, Mine.D.truth, List.map_cons, List.map_nil, List.getElem?_cons_zero, List.getElem?_cons_succ, List.getElem?_nil, Option.map_some, Option.map_none, List.set_cons_zero, List.set_cons_succ, eq_str, ne_str, zbu, zbT, List.cons.injEq, and_true, and_false, true_and, false_and, Nat.reduceEqDiff, decide_true, decide_false, reduceCtorEq, Bool.not_true, Bool.not_false, Nat.reduceAdd, List.isEmpty_cons, List.isEmpty_nil, Nat.reduceLeDiff, Nat.zero_le, Option.isSome_some, Option.isSome_none, zbI, List.all_cons, List.all_nil, zaH, zaI, zaP, zbv, Bool.and_true, Bool.true_and, cut, List.drop_succ_cons, List.drop_zero, List.take_succ_cons, List.take_zero, Nat.reduceSub, firstAt, reduceIte, List.mem_cons, List.not_mem_nil, or_false, false_or, or_true, true_or, itemsOf, Option.bind_some, o_len, o_sub, o_neg, zcG, zdr, zdq, zdo, zdn, zcF, o_gt1, zey, zex, o_sl1, zdt, zds, zdp, zcI, zcH, List.nil_append, List.cons_append, List.length_cons, List.length_nil, Int.reduceSub, Int.reduceNeg, Int.reduceToNat, Int.toNat_zero, Int.toNat_one, Int.reduceAdd, Int.cast_ofNat_Int, Int.natCast_one, Int.natCast_zero, Int.zero_add, Nat.zero_add, List.eraseIdx_cons_succ, List.eraseIdx_cons_zero, Nat.reduceLT, compGo, zbS, repX, *]) <;> rfl)) | (show (_ : Nat) < lim; decide) | decide))
  case h2 =>
    refine ⟨_, _, _, _, _, _, _, rfl, ?_, ?_, ?_, ?_, ?_, ?_, ?_⟩ <;> first | exact zaH | exact zaI | assumption
theorem zks (H : Fx pat I n (91 :: 98 :: 45 :: 97 :: 93 :: v)) (hr : r.length < lim) (S : TState pat n q r (I 0) ρ) : ∃ ρ', ex cf tBody10 ρ = some (ρ', .next) ∧ TState pat n q (r ++ [.str [40, 63, 33, 41]]) (I 5) ρ' := by
  obtain ⟨hi, hl, hg, hs, hf, ha1, ha2, ha3, hz⟩ := H
  obtain ⟨j7, j8, j9, j10, j11, j12, j13, rfl, h7, h8, h9, h10, h11, h12, h13⟩ := S
  refine ⟨?w, ?h1, ?h2⟩
  case h1 =>
    unfold tBody10 s_translate10
    (repeat' (first | with_reducible (first | exact za9 | apply R_seq | exact zbx | exact zbc | exact zaC | refine zal ?_ | apply R_ite | refine R_tt ?_ | refine R_ff ?_ | apply zce | apply za1 | exact zcg | apply R_wGo | refine zcf ?_ | exact zdh | exact zdg | apply R_for | exact zbV | apply za2 | refine zbQ ?_ | refine zcq ?_ | exact zdj | exact zdi | apply zaj | apply zbp | apply zaU | apply zbz | apply zcr | apply R_ret | apply za3 | apply zbw | apply zby | apply R_fz) | (((try simp (config := {failIfUnchanged := false}) only [zcx, zcO, zc7, zbq, zaG, zaL, zaB, zbh, zcb, zbE, zaT, za7, zbi, zb1, zbs, zbe, za0, zbr, zaY, zaZ, zaK, zaR, zbb, zaX, zaA, zaO, zba, fzAll, ownAt, Mine.R.ds, Mine.R.fz, Mine.D.truth, List.map_cons, List.map_nil, List.getElem?_cons_zero, List.getElem?_cons_succ, List.getElem?_nil, Option.map_some, Option.map_none, List.set_cons_zero, List.set_cons_succ, eq_str, ne_str, zbu, zbT, List.cons.injEq, and_true, and_false, true_and, false_and, Nat.reduceEqDiff, decide_true, decide_false, reduceCtorEq, Bool.not_true, Bool.not_false, Nat.reduceAdd, List.isEmpty_cons, List.isEmpty_nil, Nat.reduceLeDiff, Nat.zero_le, Option.isSome_some, Option.isSome_none, zbI, List.all_cons, List.all_nil, zaH, zaI, zaP, zbv, Bool.and_true, Bool.true_and, cut, List.drop_succ_cons, List.drop_zero, List.take_succ_cons, List.take_zero, Nat.reduceSub, firstAt, reduceIte, List.mem_cons, List.not_mem_nil, or_false, false_or, or_true, true_or, itemsOf, Option.bind_some, o_len, o_sub, o_neg, zcG, zdr, zdq, zdo, zdn, zcF, o_gt1, zey, zex, o_sl1, zdt, zds, zdp, zcI, zcH, List.nil_append, List.cons_append, List.length_cons, List.length_nil, Int.reduceSub, Int.reduceNeg, Int.reduceToNat, Int.toNat_zero, Int.toNat_one, Int.reduceAdd, Int.cast_ofNat_Int, Int.natCast_one, Int.natCast_zero, Int.zero_add, Nat.zero_add, List.eraseIdx_cons_succ, List.eraseIdx_cons_zero, Nat.reduceLT, compGo, zbS, repX, *]) <;> rfl)) | (show (_ : Nat) < lim; decide) | decide))
  case h2 =>
    refine ⟨_, _, _, _, _, _, _, rfl, ?_, ?_, ?_, ?_, ?_, ?_, ?_⟩ <;> first | exact zaH | exact zaI | assumption
theorem zi6 (H : Fx pat I n (91 :: 33 :: 98 :: 45 :: 97 :: 93 :: v)) (hr : r.length < lim) (S : TState pat n q r (I 0) ρ) : ∃ ρ', ex cf tBody10 ρ = some (ρ', .next) ∧ TState pat n q (r ++ [.str [46]]) (I 6) ρ' := by
  obtain ⟨hi, hl, hg, hs, hf, ha1, ha2, ha3, hz⟩ := H
  obtain ⟨j7, j8, j9, j10, j11, j12, j13, rfl, h7, h8, h9, h10, h11, h12, h13⟩ := S
  refine ⟨?w, ?h1, ?h2⟩
  case h1 =>
    unfold tBody10 s_translate10
    (repeat' (first | with_reducible (first | exact za9 | apply R_seq | exact zbx | exact zbc | exact zaC | refine zal ?_ | apply R_ite | refine R_tt ?_ | refine R_ff ?_ | apply zce | apply za1 | exact zcg | apply R_wGo | refine zcf ?_ | exact zdh | exact zdg | apply R_for | exact zbV | apply za2 | refine zbQ ?_ | refine zcq ?_ | exact zdj | exact zdi | apply zaj | apply zbp | apply zaU | apply zbz | apply zcr | apply R_ret | apply za3 | apply zbw | apply zby | apply R_fz) | (((try simp (config := {failIfUnchanged := false}) only [zcx, zcO, zc7, zbq, zaG, zaL, zaB, zbh, zcb, zbE, zaT, za7, zbi, zb1, zbs, zbe, za0, zbr, zaY, zaZ, zaK, zaR, zbb, zaX, zaA, zaO, zba, fzAll, ownAt, Mine.R.ds, Mine.R.fz, Mine.D.truth, List.map_cons, List.map_nil, List.getElem?_cons_zero, List.getElem?_cons_succ, List.getElem?_nil, Option.map_some, Option.map_none, List.set_cons_zero, List.set_cons_succ, eq_str, ne_str, zbu, zbT, List.cons.injEq, and_true, and_false, true_and, false_and, Nat.reduceEqDiff, decide_true, decide_false, reduceCtorEq, Bool.not_true, Bool.not_false, Nat.reduceAdd, List.isEmpty_cons, List.isEmpty_nil, Nat.reduceLeDiff, Nat.zero_le, Option.isSome_some, Option.isSome_none, zbI, List.all_cons, List.all_nil, zaH, zaI, zaP, zbv, Bool.and_true, Bool.true_and, cut, List.drop_succ_cons, List.drop_zero, List.take_succ_cons, List.take_zero, Nat.reduceSub, firstAt, reduceIte, List.mem_cons, List.not_mem_nil, or_false, false_or, or_true, true_or, itemsOf, Option.bind_some, o_len, o_sub, o_neg, zcG, zdr, zdq, zdo, zdn, zcF, o_gt1, zey, zex, o_sl1, zdt, zds, zdp, zcI, zcH, List.nil_append, List.cons_append, List.length_cons, List.length_nil, Int.reduceSub, Int.reduceNeg, Int.reduceToNat, Int.toNat_zero, Int.toNat_one, Int.reduceAdd, Int.cast_ofNat_Int, Int.natCast_one, Int.natCast_zero, Int.zero_add, Nat.zero_add, List.eraseIdx_cons_succ, List.eraseIdx_cons_zero, Nat.reduceLT, compGo, zbS, repX, *]) <;> rfl)) | (show (_ : Nat) < lim; decide) | decide))
  case h2 =>
    refine ⟨_, _, _, _, _, _, _, rfl, ?_, ?_, ?_, ?_, ?_, ?_, ?_⟩ <;> first | exact zaH | exact zaI | assumption
theorem zi5 (H : Fx pat I n (91 :: 97 :: 98 :: 93 :: v)) (hr : r.length < lim) (S : TState pat n q r (I 0) ρ) : ∃ ρ', ex cf tBody10 ρ = some (ρ', .next) ∧ TState pat n q (r ++ [.str [91, 97, 98, 93]]) (I 4) ρ' := by
  obtain ⟨hi, hl, hg, hs, hf, ha1, ha2, ha3, hz⟩ := H
  obtain ⟨j7, j8, j9, j10, j11, j12, j13, rfl, h7, h8, h9, h10, h11, h12, h13⟩ := S
  refine ⟨?w, ?h1, ?h2⟩
  case h1 =>
    unfold tBody10 s_translate10
    (repeat' (first | with_reducible (first | exact za9 | apply R_seq | exact zbx | exact zbc | exact zaC | refine zal ?_ | apply R_ite | refine R_tt ?_ | refine R_ff ?_ | apply zce | apply za1 | exact zcg | apply R_wGo | refine zcf ?_ | exact zdh | exact zdg | apply R_for | exact zbV | apply za2 | refine zbQ ?_ | refine zcq ?_ | exact zdj | exact zdi | apply zaj | apply zbp | apply zaU | apply zbz | apply zcr | apply R_ret | apply za3 | apply zbw | apply zby | apply R_fz) | (((try simp (config := {failIfUnchanged := false}) only [zcx, zcO, zc7, zbq, zaG, zaL, zaB, zbh, zcb, zbE, zaT, za7, zbi, zb1, zbs, zbe, za0, zbr, zaY, zaZ, zaK, zaR, zbb, zaX, zaA, zaO, zba, fzAll, ownAt, Mine.R.ds, Mine.R.fz, Mine.D.truth, List.map_cons, List.map_nil, List.getElem?_cons_zero, List.getElem?_cons_succ, List.getElem?_nil, Option.map_some, Option.map_none, List.set_cons_zero, List.set_cons_succ, eq_str, ne_str, zbu, zbT, List.cons.injEq, and_true, and_false, true_and, false_and, Nat.reduceEqDiff, decide_true, decide_false, reduceCtorEq, Bool.not_true, Bool.not_false, Nat.reduceAdd, List.isEmpty_cons, List.isEmpty_nil, Nat.reduceLeDiff, Nat.zero_le, Option.isSome_some, Option.isSome_none, zbI, List.all_cons, List.all_nil, zaH, zaI, zaP, zbv, Bool.and_true, Bool.true_and, cut, List.drop_succ_cons, List.drop_zero, List.take_succ_cons, List.take_zero, Nat.reduceSub, firstAt, reduceIte, List.mem_cons, List.not_mem_nil, or_false, false_or, or_true, true_or, itemsOf, Option.bind_some, o_len, o_sub, o_neg, zcG, zdr, zdq, zdo, zdn, zcF, o_gt1, zey, zex, o_sl1, zdt, zds, zdp, zcI, zcH, List.nil_append, List.cons_append, List.length_cons, List.length_nil, Int.reduceSub, Int.reduceNeg, Int.reduceToNat, Int.toNat_zero, Int.toNat_one, Int.reduceAdd, Int.cast_ofNat_Int, Int.natCast_one, Int.natCast_zero, Int.zero_add, Nat.zero_add, List.eraseIdx_cons_succ, List.eraseIdx_cons_zero, Nat.reduceLT, compGo, zbS, repX, *]) <;> rfl)) | (show (_ : Nat) < lim; decide) | decide))
  case h2 =>
    refine ⟨_, _, _, _, _, _, _, rfl, ?_, ?_, ?_, ?_, ?_, ?_, ?_⟩ <;> first | exact zaH | exact zaI | assumption
end
set_option genInjectivity false in
structure TurnOK10 (q : D) (u : List Nat) (k : Nat) (r r' : List D) : Prop where
  pos : 1 ≤ k
  le : k ≤ u.length
  run : ∀ cf pat I n ρ, EscOK cf → Fx pat I n u → TState pat n q r (I 0) ρ → ∃ ρ', ex cf tBody10 ρ = some (ρ', .next) ∧ TState pat n q r' (I k) ρ'
inductive Tr10 (q : D) : List Nat → List D → List D → Prop
  | nil {r : List D} : Tr10 q [] r r
  | step {u : List Nat} {k : Nat} {r r' out : List D} : TurnOK10 q u k r r' → Tr10 q (u.drop k) r' out → Tr10 q u r out
theorem zht {cf : Nat → List D → Option D} {pat u : List Nat} {p : Nat} {q : D} {r : List D} {ρ : List Slot} (H : At pat p u) (S : TState pat (N pat) q r (P p 0) ρ) : evT cf tCond10 ρ = some (u[0]?).isSome := by
  obtain ⟨j7, j8, j9, j10, j11, j12, j13, rfl, hj⟩ := S
  have hl := lt_N H (k := 0)
  generalize P p 0 = i at hl ⊢
  generalize N pat = n at hl ⊢
  unfold tCond10 s_translate10
  simp only [zcO, zaB, zbh, zcb, zbE, zaT, za7, zbi, zb1, zbs, zbe, za0, zbr, zaY, zaZ, zaK, zaR, zbb, zaX, zaA, zaO, zba, List.getElem?_cons_succ, List.getElem?_cons_zero, Option.map_some, List.map_cons, List.map_nil, R.ds, hl, zaL, D.truth]
theorem zms {cf : Nat → List D → Option D} (hE : EscOK cf) {q : D} {pat u : List Nat} {r out : List D} (t : Tr10 q u r out) : ∀ (p fuel : Nat) (ρ : List Slot), u.length ≤ fuel → At pat p u → TState pat (N pat) q r (P p 0) ρ →
    ∃ ρ', whileGo (evT cf tCond10) (ex cf tBody10) (fuel + 1) ρ = some (ρ', .next) ∧ TState pat (N pat) q out (P pat.length 0) ρ' := by
  induction t with
  | nil =>
    intro p fuel ρ hf H S
    refine ⟨ρ, za1 (t := false) (by rw [zht H S]; rfl) zcg, ?_⟩
    have := H.len
    rw [this]
    exact S
  | @step u k r r' out T t ih =>
    intro p fuel ρ hf H S
    have hne : 1 ≤ u.length := Nat.le_trans T.pos T.le
    obtain ⟨ρ1, h1, S1⟩ := T.run cf pat (P p) (N pat) ρ hE H.fx S
    obtain ⟨fuel', rfl⟩ : ∃ f, fuel = f + 1 := ⟨fuel - 1, by omega⟩
    obtain ⟨ρ2, h2, S2⟩ := ih (p + k) fuel' ρ1 (by rw [List.length_drop]; have := T.pos; omega) (H.skip T.le) (by rw [P_skip]; exact S1)
    refine ⟨ρ2, za1 (t := true) ?_ (R_wGo h1 (zcf h2)), S2⟩
    rw [zht H S, zhV]
    exact congrArg some (decide_eq_true hne)
theorem zg4 {fns : Nat → Option Fn} (h0 : fns 0 = some fn_escape) (h1 : fns 1 = some fn_translate10) {q : D} {u : List Nat} {out : List D} (t : Tr10 q u [] out) (hu : u.length ≤ 99999) (m : Nat) : callF fns (m + 2) 1 [.str u, .tok 0, q] = some (.list out) := by
  refine zfh h1 (ρ := [.val (.str u), .val (.tok 0), .val q, .unset, .unset, .unset, .unset, .unset, .unset, .unset, .unset, .unset, .unset, .unset]) rfl ?_
  show ∃ ρ', ex (callF fns (m + 1)) s_translate10 _ = _
  have H : At u 0 u := ⟨rfl, Nat.zero_le _, by omega⟩
  have S : TState u (N u) q [] (P 0 0) [.val (.str u), .val (.tok 0), .val q, .own [], .app 3, .val (P 0 0), .val (N u), .unset, .unset, .unset, .unset, .unset, .unset, .unset] := ⟨_, _, _, _, _, _, _, rfl, rfl, rfl, rfl, rfl, rfl, rfl, rfl⟩
  obtain ⟨ρ2, h2, S2⟩ := zms (zl8 h0 m) t 0 99999 _ hu H S
  obtain ⟨j7, j8, j9, j10, j11, j12, j13, rfl, hj⟩ := S2
  unfold s_translate10
  have eA : evT (callF fns (m + 1)) (.op .eq (.cons (.var 5) (.cons (.var 6) .nil))) [.val (.str u), .val (.tok 0), .val q, .own out, .app 3, .val (P u.length 0), .val (N u), j7, j8, j9, j10, j11, j12, j13] = some true := by
    have e : opF .eq [P u.length 0, N u] = some (.val (.bool true)) := by
      show some (R.val (.bool (decide (((u.length + 0 : Nat) : Int) = (u.length : Int))))) = _
      rw [decide_eq_true (by simp)]
    generalize P u.length 0 = i at e ⊢
    generalize N u = n at e ⊢
    simp only [zcO, zaB, zbh, zcb, zbE, zaT, za7, zbi, zb1, zbs, zbe, za0, zbr, zaY, zaZ, zaK, zaR, zbb, zaX, zaA, zaO, zba, List.getElem?_cons_succ, List.getElem?_cons_zero, Option.map_some, List.map_cons, List.map_nil, R.ds, e, zaL, D.truth]
  have eR : ∀ i n : D, ev1 (callF fns (m + 1)) (.var 3) [.val (.str u), .val (.tok 0), .val q, .val (.list out), .app 3, .val i, .val n, j7, j8, j9, j10, j11, j12, j13] = some (.list out) := fun i n => by
    simp only [zcx, zaB, zbh, zcb, zbE, zaT, za7, zbi, zb1, zbs, zbe, za0, zbr, zaY, zaZ, zaK, zaR, zbb, zaX, zaA, zaO, zba, List.getElem?_cons_succ, List.getElem?_cons_zero, zbq, R.fz]
  exact ⟨_, R_seq (za3 (l := []) rfl rfl rfl) (zal (R_seq (zcr (l := []) rfl rfl) (zal (R_seq (zbp (d1 := P 0 0) (d2 := N u) rfl rfl) (zal (R_seq (zce h2) (zal (R_seq (zm2 eA) (zal (R_seq (R_seq (R_fz (l := out) rfl rfl) (zal (R_ret (eR _ _)))) zaC))))))))))⟩
noncomputable def IsAtom10 (q : D) (t : List Nat) (a : Option D) : Prop := ∀ v r, GoodL r → r.length + 1 < lim → TurnOK10 q (t ++ v) t.length r (pushA r a)
noncomputable def AtomsOK10 (q : D) (as : List (List Nat × Option D)) : Prop := ∀ a ∈ as, IsAtom10 q a.1 a.2 ∧ ∀ d, a.2 = some d → GoodD d ∨ d = .tok 0
theorem zhq {q : D} {v : List Nat} {out : List D} : ∀ {as : List (List Nat × Option D)} {r : List D}, AtomsOK10 q as → GoodL r → r.length + as.length + 1 < lim → Tr10 q v (outA r as) out → Tr10 q (textA as ++ v) r out
  | [], r, _, _, _, t => t
  | a :: as, r, h, hr, hl, t => by
    obtain ⟨h1, h2⟩ := h a List.mem_cons_self
    have h3 := h1 (textA as ++ v) r hr (by rw [List.length_cons] at hl; omega)
    have e : textA (a :: as) ++ v = a.1 ++ (textA as ++ v) := by unfold textA; rw [List.flatMap_cons, List.append_assoc]
    rw [e]
    refine .step h3 ?_
    rw [List.drop_left' rfl]
    refine zhq (fun b hb => h b (List.mem_cons_of_mem _ hb)) (zkD hr h2) ?_ t
    have := zlt (r := r) (a := a.2)
    rw [List.length_cons] at hl
    omega
theorem zfp {fns : Nat → Option Fn} (h0 : fns 0 = some fn_escape) (h1 : fns 1 = some fn_translate10) {q : D} {as : List (List Nat × Option D)} (h : AtomsOK10 q as) (hl : as.length ≤ 9999) (hu : (textA as).length ≤ 99999) (m : Nat) :
    callF fns (m + 2) 1 [.str (textA as), .tok 0, q] = some (.list (outA [] as)) := by
  refine zg4 h0 h1 ?_ hu m
  have := zhq (v := []) (out := outA [] as) h (fun d hd => nomatch hd) (r := []) (by unfold lim; simp; omega) .nil
  rwa [List.append_nil] at this
theorem zmm {q : D} : IsAtom10 q [63] (some q) := fun v r hr hl => ⟨Nat.le_refl _, by simp, fun cf pat I n ρ hE H S => zlc H (by omega) S⟩
theorem zi3 {q : D} : IsAtom10 q [42] none := fun v r hr hl => ⟨Nat.le_refl _, by simp, fun cf pat I n ρ hE H S => by
  rcases List.eq_nil_or_concat r with rfl | ⟨r', d, rfl⟩
  · have e : pushA [] none = [.tok 0] := rfl
    rw [e]
    exact zhO H S
  · rw [List.concat_eq_append] at *
    unfold pushA
    simp only [List.getLast?_append, List.getLast?_singleton, Option.some_or, Option.map_some, Option.some.injEq]
    by_cases hd : isTok0 d = true
    · have := zlR hd
      subst this
      rw [if_pos hd]
      exact zhN H S
    · rw [if_neg hd]
      exact zhM ((hr d (by simp)).resolve_right fun e => hd (by rw [e]; rfl)) (by omega) H S⟩
theorem zel {q : D} {c : Nat} (c1 : ¬ c = 42) (c2 : ¬ c = 63) (c3 : ¬ c = 91) (hc : c < 128) : IsAtom10 q [c] (some (.str (esc c))) := fun v r hr hl => ⟨Nat.le_refl _, by simp, fun cf pat I n ρ hE H S => zis c1 c2 c3 (hE c hc) (by omega) H S⟩
theorem zk4 {q : D} : IsAtom10 q [91, 33, 97, 93] (some (.str [91, 94, 97, 93])) := fun v r hr hl => ⟨by decide, by simp, fun cf pat I n ρ hE H S => zkq H (Nat.lt_of_succ_lt hl) S⟩
theorem zk5 {q : D} : IsAtom10 q [91, 46, 45, 97, 93] (some (.str [91, 46, 45, 97, 93])) := fun v r hr hl => ⟨by decide, by simp, fun cf pat I n ρ hE H S => zkr H (Nat.lt_of_succ_lt hl) S⟩
theorem zk6 {q : D} : IsAtom10 q [91, 98, 45, 97, 93] (some (.str [40, 63, 33, 41])) := fun v r hr hl => ⟨by decide, by simp, fun cf pat I n ρ hE H S => zks H (Nat.lt_of_succ_lt hl) S⟩
theorem zjN {q : D} : IsAtom10 q [91, 33, 98, 45, 97, 93] (some (.str [46])) := fun v r hr hl => ⟨by decide, by simp, fun cf pat I n ρ hE H S => zi6 H (Nat.lt_of_succ_lt hl) S⟩
theorem zjM {q : D} : IsAtom10 q [91, 97, 98, 93] (some (.str [91, 97, 98, 93])) := fun v r hr hl => ⟨by decide, by simp, fun cf pat I n ρ hE H S => zi5 H (Nat.lt_of_succ_lt hl) S⟩
end Mine
end P10tx
section P10bx
open PySem PySem.StrLaws PySem.Builtin PySem.Builtin.Str
namespace Mine
noncomputable def sg10 : List Nat := [46, 47, 97, 98]
noncomputable def aT (k : Nat) : List Nat := [[97], [98], [46], [63], [91, 33, 97, 93], [91, 46, 45, 97, 93], [91, 98, 45, 97, 93], [91, 33, 98, 45, 97, 93], [91, 97, 98, 93], [42], [47]].getD k []
noncomputable def aP (k : Nat) : D := [.str [97], .str [98], .str [92, 46], .str [46], .str [91, 94, 97, 93], .str [91, 46, 45, 97, 93], .str [40, 63, 33, 41], .str [46], .str [91, 97, 98, 93], .tok 0, .str [47]].getD k .none
noncomputable def aM (k : Nat) : D := [.str [97], .str [98], .str [46], .str [46, 97, 98], .str [46, 98], .str [46, 97], .str [], .str [46, 97, 98], .str [97, 98], .none, .str [47]].getD k .none
noncomputable def aC (k : Nat) : List Nat := [[97], [98], [46], [46, 97, 98, 47], [46, 98, 47], [46, 97, 47], [], [46, 97, 98, 47], [97, 98], [], [47]].getD k []
inductive Mt : List Nat → List Nat → Prop
  | nil : Mt [] []
  | star {as u v : List Nat} : Mt as v → Mt (9 :: as) (u ++ v)
  | one {k c : Nat} {as v : List Nat} : k ≠ 9 → c ∈ aC k → Mt as v → Mt (k :: as) (c :: v)
theorem Mt.nil_iff {u : List Nat} : Mt [] u ↔ u = [] := ⟨fun h => by cases h; rfl, fun h => h ▸ .nil⟩
theorem Mt.star_iff {as w : List Nat} : Mt (9 :: as) w ↔ ∃ u v, w = u ++ v ∧ Mt as v :=
  ⟨fun h => by cases h with
    | star h => exact ⟨_, _, rfl, h⟩
    | one h => exact absurd rfl h, fun ⟨u, v, e, h⟩ => e ▸ .star h⟩
theorem Mt.one_iff {k : Nat} {as w : List Nat} (hk : k ≠ 9) : Mt (k :: as) w ↔ ∃ c v, w = c :: v ∧ c ∈ aC k ∧ Mt as v :=
  ⟨fun h => by cases h with
    | star h => exact absurd rfl hk
    | one _ h1 h2 => exact ⟨_, _, rfl, h1, h2⟩, fun ⟨c, v, e, h1, h2⟩ => e ▸ .one hk h1 h2⟩
theorem Mt.app : ∀ {as bs w : List Nat}, Mt (as ++ bs) w ↔ ∃ u v, w = u ++ v ∧ Mt as u ∧ Mt bs v
  | [], bs, w => ⟨fun h => ⟨[], w, rfl, .nil, h⟩, fun ⟨u, v, e, h1, h2⟩ => by cases h1; exact e ▸ h2⟩
  | k :: as, bs, w => by
    by_cases hk : k = 9
    · subst hk
      rw [List.cons_append, Mt.star_iff]
      constructor
      · rintro ⟨u, v, rfl, h⟩
        obtain ⟨x, y, rfl, h1, h2⟩ := Mt.app.mp h
        exact ⟨u ++ x, y, (List.append_assoc ..).symm, .star h1, h2⟩
      · rintro ⟨u, v, rfl, h1, h2⟩
        obtain ⟨x, y, rfl, h⟩ := Mt.star_iff.mp h1
        exact ⟨x, y ++ v, List.append_assoc .., Mt.app.mpr ⟨y, v, rfl, h, h2⟩⟩
    · rw [List.cons_append, Mt.one_iff hk]
      constructor
      · rintro ⟨c, v, rfl, hc, h⟩
        obtain ⟨x, y, rfl, h1, h2⟩ := Mt.app.mp h
        exact ⟨c :: x, y, rfl, .one hk hc h1, h2⟩
      · rintro ⟨u, v, rfl, h1, h2⟩
        obtain ⟨c, y, rfl, hc, h⟩ := (Mt.one_iff hk).mp h1
        exact ⟨c, y ++ v, rfl, hc, Mt.app.mpr ⟨y, v, rfl, h, h2⟩⟩
noncomputable def mv (w : List Nat) (at_ : List Nat) (k : Nat) : List Nat :=
  if k = 9 then (match at_ with | [] => [] | p :: _ => List.range' p (w.length + 1 - p))
  else (at_.filter fun p => decide (p < w.length) && decide (w.getD p 0 ∈ aC k)).map (· + 1)
theorem mv_star {w : List Nat} {p : Nat} {r : List Nat} : mv w (p :: r) 9 = List.range' p (w.length + 1 - p) := rfl
theorem zlB {w at_ : List Nat} {k : Nat} (hk : k ≠ 9) : mv w at_ k = (at_.filter fun p => decide (p < w.length) && decide (w.getD p 0 ∈ aC k)).map (· + 1) := if_neg hk
set_option genInjectivity false in
structure Pl (w at_ : List Nat) : Prop where
  so : at_.Pairwise (· < ·)
  le : ∀ p ∈ at_, p ≤ w.length
theorem zkb {p l q : Nat} (h : p ≤ l) : q ∈ List.range' p (l + 1 - p) ↔ p ≤ q ∧ q ≤ l := by
  rw [List.mem_range'_1, Nat.add_sub_cancel' (Nat.le_succ_of_le h), Nat.lt_succ_iff]
theorem mv_pl {w at_ : List Nat} {k : Nat} (P : Pl w at_) : Pl w (mv w at_ k) := by
  by_cases hk : k = 9
  · subst hk
    cases at_ with
    | nil => exact P
    | cons p r => exact ⟨List.pairwise_lt_range', fun q h => ((zkb (P.le p List.mem_cons_self)).mp h).2⟩
  · rw [zlB hk]
    refine ⟨List.pairwise_map.mpr ((P.so.sublist List.filter_sublist).imp fun h => Nat.succ_lt_succ h), fun q h => ?_⟩
    obtain ⟨p, hp, rfl⟩ := List.mem_map.mp h
    have := (List.mem_filter.mp hp).2
    rw [Bool.and_eq_true] at this
    exact of_decide_eq_true this.1
theorem zlC {w : List Nat} {p k : Nat} {as : List Nat} (hk : k ≠ 9) : Mt (k :: as) (w.drop p) ↔ (p < w.length ∧ w.getD p 0 ∈ aC k) ∧ Mt as (w.drop (p + 1)) := by
  rw [Mt.one_iff hk]
  by_cases h : p < w.length
  · rw [List.drop_eq_getElem_cons h, List.getD_eq_getElem?_getD, List.getElem?_eq_getElem h]
    exact ⟨fun ⟨c, v, e, h1, h2⟩ => (by cases e; exact ⟨⟨h, h1⟩, h2⟩), fun ⟨h1, h2⟩ => ⟨_, _, rfl, h1.2, h2⟩⟩
  · rw [List.drop_eq_nil_of_le (Nat.not_lt.mp h)]
    exact ⟨fun ⟨c, v, e, _⟩ => (nomatch e), fun ⟨h1, _⟩ => absurd h1.1 h⟩
theorem zna {w : List Nat} : ∀ {as at_ : List Nat}, Pl w at_ → (w.length ∈ as.foldl (mv w) at_ ↔ ∃ p ∈ at_, Mt as (w.drop p))
  | [], at_, P => by
    simp only [List.foldl_nil, Mt.nil_iff, List.drop_eq_nil_iff]
    exact ⟨fun h => ⟨_, h, Nat.le_refl _⟩, fun ⟨p, h, e⟩ => Nat.le_antisymm (P.le p h) e ▸ h⟩
  | k :: as, at_, P => by
    rw [List.foldl_cons, zna (mv_pl P)]
    by_cases hk : k = 9
    · subst hk
      cases at_ with
      | nil => exact ⟨fun ⟨_, h, _⟩ => (nomatch h), fun ⟨_, h, _⟩ => nomatch h⟩
      | cons p r =>
        simp only [mv_star, zkb (P.le p List.mem_cons_self)]
        constructor
        · rintro ⟨q, h, hm⟩
          refine ⟨p, List.mem_cons_self, ?_⟩
          have : w.drop p = (w.drop p).take (q - p) ++ w.drop q := by
            conv => lhs; rw [← List.take_append_drop (q - p) (w.drop p)]
            rw [List.drop_drop, Nat.add_sub_cancel' h.1]
          rw [this]
          exact .star hm
        · rintro ⟨p', hp, hm⟩
          obtain ⟨u, v, e, hm⟩ := Mt.star_iff.mp hm
          have hle : p ≤ p' := by
            rcases List.mem_cons.mp hp with rfl | hp
            · exact Nat.le_refl _
            · exact Nat.le_of_lt (List.rel_of_pairwise_cons P.so hp)
          have e2 : v = w.drop (p' + u.length) := by rw [← List.drop_drop, e, List.drop_left]
          have e3 := congrArg List.length e
          rw [List.length_drop, List.length_append] at e3
          refine ⟨p' + u.length, ⟨Nat.le_trans hle (Nat.le_add_right _ _), ?_⟩, e2 ▸ hm⟩
          have := P.le p' hp
          clear hle e e2 hm P
          omega
    · rw [zlB hk]
      constructor
      · rintro ⟨q, h, hm⟩
        obtain ⟨p, hp, rfl⟩ := List.mem_map.mp h
        have hp := List.mem_filter.mp hp
        simp only [Bool.and_eq_true, decide_eq_true_eq] at hp
        exact ⟨p, hp.1, (zlC hk).mpr ⟨hp.2, hm⟩⟩
      · rintro ⟨p, hp, hm⟩
        have := (zlC hk).mp hm
        refine ⟨p + 1, List.mem_map_of_mem (List.mem_filter.mpr ⟨hp, ?_⟩), this.2⟩
        simp only [Bool.and_eq_true, decide_eq_true_eq]
        exact this.1
theorem pl0 (w : List Nat) : Pl w [0] := ⟨List.pairwise_singleton _ _, fun p h => by rw [List.mem_singleton.mp h]; exact Nat.zero_le _⟩
theorem znb {w as : List Nat} : w.length ∈ as.foldl (mv w) [0] ↔ Mt as w := by
  rw [zna (pl0 w)]
  exact ⟨fun ⟨p, h, hm⟩ => by rw [List.mem_singleton.mp h] at hm; exact hm, fun h => ⟨0, List.mem_cons_self, h⟩⟩
end Mine
end P10bx
section P10cx
open PySem PySem.StrLaws PySem.Builtin PySem.Builtin.Str
namespace Mine
noncomputable def tkB : S := (.seq (.ite (.op .is_ (.cons (.var 4) (.cons (.var 1) .nil))) (.seq (.assign 3 (.ite (.var 3) (.op .listOf (.cons (.rangeI (.cons (.op .index (.cons (.var 3) (.cons (.const (.int 0)) .nil))) (.cons (.op .add (.cons (.op .len (.cons (.var 2) .nil)) (.cons (.const (.int 1)) .nil))) .nil))) .nil)) (.list .nil))) .skip) (.seq (.assign 3 (.comp 5 (.seqI (.var 3)) (.and (.op .lt (.cons (.var 5) (.cons (.op .len (.cons (.var 2) .nil)) .nil))) (.call 14 (.cons (.var 4) (.cons (.op .index (.cons (.var 2) (.cons (.var 5) .nil))) .nil)))) (.op .add (.cons (.var 5) (.cons (.const (.int 1)) .nil))))) .skip)) .skip)
noncomputable def mnB : S := (.seq (.ite (.op .is_ (.cons (.var 3) (.cons (.const .none) .nil))) (.seq (.assign 2 (.ite (.var 2) (.op .listOf (.cons (.rangeI (.cons (.op .index (.cons (.var 2) (.cons (.const (.int 0)) .nil))) (.cons (.op .add (.cons (.op .len (.cons (.var 1) .nil)) (.cons (.const (.int 1)) .nil))) .nil))) .nil)) (.list .nil))) .skip) (.seq (.assign 4 (.ite (.op .in_ (.cons (.var 3) (.cons (.tup (.cons (.const (.str [46, 97, 98])) (.cons (.const (.str [46, 98])) (.cons (.const (.str [46, 97])) .nil)))) .nil))) (.op .add (.cons (.var 3) (.cons (.const (.str [47])) .nil))) (.var 3))) (.seq (.assign 2 (.comp 5 (.seqI (.var 2)) (.and (.op .lt (.cons (.var 5) (.cons (.op .len (.cons (.var 1) .nil)) .nil))) (.op .in_ (.cons (.op .index (.cons (.var 1) (.cons (.var 5) .nil))) (.cons (.var 4) .nil)))) (.op .add (.cons (.var 5) (.cons (.const (.int 1)) .nil))))) .skip))) .skip)
section
variable {cf : Nat → List D → Option D}
noncomputable def atD (l : List Nat) : D := .list (l.map nI)
theorem zli {ρ : List Slot} {i j : Nat} {w at_ : List Nat} (g : ρ[i]? = some (.val (atD at_))) (g2 : ρ[j]? = some (.val (.str w))) (hw : w.length ≤ 100) (P : Pl w at_) :
    ev cf (.ite (.var i) (.op .listOf (.cons (.rangeI (.cons (.op .index (.cons (.var i) (.cons (.const (.int 0)) .nil))) (.cons (.op .add (.cons (.op .len (.cons (.var j) .nil)) (.cons (.const (.int 1)) .nil))) .nil))) .nil)) (.list .nil)) ρ = some [.own ((mv w at_ 9).map nI)] := by
  rw [zbe, V_v g rfl]
  cases at_ with
  | nil => rfl
  | cons p r =>
    have hp := P.le p List.mem_cons_self
    have h1 : opRange [nI p, nI (w.length + 1)] = some ((List.range' p (w.length + 1 - p)).map nI) := zlr (Nat.le_trans hp (Nat.le_trans hw (by decide))) (Nat.le_trans (Nat.succ_le_succ hw) (by decide))
    have h0 : opF .index [atD (p :: r), .int 0] = some (.val (nI p)) := ze0 (k := 0) rfl (Nat.zero_le _)
    exact V_op1 (zem (zaw (V_op2 (V_v g rfl) rfl h0) (zaw (V_op2 (V_op1 (V_v g2 rfl) rfl) rfl (show opF .add [nI w.length, .int 1] = some (.val (nI (w.length + 1))) from rfl)) rfl)) h1) rfl
theorem zlh {ρ : List Slot} {i j k : Nat} {x : X} {w at_ : List Nat} (g : ρ[i]? = some (.val (atD at_))) (g5 : ∀ d, (ρ.set 5 d)[5]? = some d) (g2 : ∀ d, (ρ.set 5 d)[j]? = some (.val (.str w))) (hk : k ≠ 9)
    (hx : ∀ p, p < w.length → ev cf x (ρ.set 5 (.val (nI p))) = some [.val (.bool (decide (w.getD p 0 ∈ aC k)))]) :
    ev cf (.comp 5 (.seqI (.var i)) (.and (.op .lt (.cons (.var 5) (.cons (.op .len (.cons (.var j) .nil)) .nil))) x) (.op .add (.cons (.var 5) (.cons (.const (.int 1)) .nil)))) ρ = some [.own ((mv w at_ k).map nI)] := by
  rw [zlB hk, List.map_map]
  refine zng (g := nI) (zfX (V_v g rfl) rfl rfl) fun p _ => zgv (V_and ?_ fun h => hx p (of_decide_eq_true h)) (fun _ => V_op2 (V_v (g5 _) rfl) rfl rfl) rfl
  have e : opF .lt [nI p, nI w.length] = some (.val (.bool (decide (p < w.length)))) := by
    show some (R.val (.bool (decide ((p : Int) < (w.length : Int))))) = _
    rw [decide_eq_decide.mpr Int.ofNat_lt]
  exact V_op2 (V_v (g5 _) rfl) (V_op1 (V_v (g2 _) rfl) rfl) e
theorem zgV {b : S} {i : Nat} {g : Nat → D} {w : List Nat} {I : List Nat → List Slot → Prop}
    (turn : ∀ k, k < 11 → ∀ a ρ, Pl w a → I a ρ → ∃ ρ', ex cf b (ρ.set i (.val (g k))) = some (ρ', .next) ∧ I (mv w a k) ρ') : ∀ {L : List Nat}, (∀ k ∈ L, k < 11) → ∀ {a : List Nat} {ρ : List Slot}, Pl w a → I a ρ → ∃ ρ', forGo (put1 i) (ex cf b) (L.map g) ρ = some (ρ', .next) ∧ I (L.foldl (mv w) a) ρ'
  | [], _, a, ρ, _, h => ⟨ρ, rfl, h⟩
  | k :: L, hL, a, ρ, P, h => by
    obtain ⟨ρ1, e1, h1⟩ := turn k (hL k List.mem_cons_self) a ρ P h
    obtain ⟨ρ2, e2, h2⟩ := zgV turn (fun k hk => hL k (List.mem_cons_of_mem _ hk)) (mv_pl (k := k) P) h1
    exact ⟨ρ2, za2 (st := put1 i) put1_eq e1 (zbQ e2), h2⟩
theorem zj1 {w : List Nat} {p : Nat} (h : p < w.length) (hw : w.length ≤ 100) : opF .index [.str w, nI p] = some (.val (.str [w.getD p 0])) := by
  show (if small (p : Int) = true then (match place (p : Int) w.length with | some k => (w[k]?).map (fun c => R.val (.str [c])) | none => none) else none) = _
  rw [if_pos (zcN (Nat.le_trans (Nat.le_of_lt h) (Nat.le_trans hw (by decide))))]
  unfold place
  rw [if_pos (Int.natCast_nonneg p), if_pos (Int.ofNat_lt.mpr h), Int.toNat_natCast]
  show (w[p]?).map (fun c => R.val (.str [c])) = _
  rw [List.getD_eq_getElem?_getD, List.getElem?_eq_getElem h]
  rfl
theorem is10 : (List.range 11).map (fun k => opF .is_ [aP k, .tok 0]) = (List.range 11).map fun k => some (.val (.bool (decide (k = 9)))) := by kernel_rfl
theorem ism10 : (List.range 11).map (fun k => opF .is_ [aM k, .none]) = (List.range 11).map fun k => some (.val (.bool (decide (k = 9)))) := by kernel_rfl
noncomputable def aS (k : Nat) : List Nat := [[97], [98], [46], [46, 97, 98, 47], [46, 98, 47], [46, 97, 47], [], [46, 97, 98, 47], [97, 98], [], [47]].getD k []
theorem sgn10 (cf : Nat → List D → Option D) (x0 x1 x2 x4 x5 : Slot) : ([0, 1, 2, 3, 4, 5, 6, 7, 8, 10].map fun k => ev cf (.ite (.op .in_ (.cons (.var 3) (.cons (.tup (.cons (.const (.str [46, 97, 98])) (.cons (.const (.str [46, 98])) (.cons (.const (.str [46, 97])) .nil)))) .nil))) (.op .add (.cons (.var 3) (.cons (.const (.str [47])) .nil))) (.var 3)) [x0, x1, x2, .val (aM k), x4, x5]) = [0, 1, 2, 3, 4, 5, 6, 7, 8, 10].map fun k => some [.val (.str (aS k))] := by kernel_rfl
theorem sgi10 : [0, 1, 2, 3, 4, 5, 6, 7, 8, 10].map (fun k => sg10.map fun c => opF .in_ [.str [c], .str (aS k)]) = [0, 1, 2, 3, 4, 5, 6, 7, 8, 10].map fun k => sg10.map fun c => some (.val (.bool (decide (c ∈ aC k)))) := by kernel_rfl
theorem one10 (m : Nat) : [0, 1, 2, 3, 4, 5, 6, 7, 8, 10].map (fun k => sg10.map fun c => callF fns10 (m + 1) 14 [aP k, .str [c]]) = [0, 1, 2, 3, 4, 5, 6, 7, 8, 10].map fun k => sg10.map fun c => some (.bool (decide (c ∈ aC k))) := by kernel_rfl
theorem mem10 : ∀ k, k < 11 → k ≠ 9 → k ∈ [0, 1, 2, 3, 4, 5, 6, 7, 8, 10] := by decide
theorem takes10 (m : Nat) {L w : List Nat} (hL : ∀ k ∈ L, k < 11) (hw : ∀ c ∈ w, c ∈ sg10) (hl : w.length ≤ 100) : ∃ b, callF fns10 (m + 2) 15 [.list (L.map aP), .tok 0, .str w] = some (.bool b) ∧ (b = true ↔ Mt L w) := by
  refine ⟨decide (w.length ∈ L.foldl (mv w) [0]), ?_, by rw [decide_eq_true_eq, znb]⟩
  refine zfh (fn := fn_law_takes) rfl (ρ := [.val (.list (L.map aP)), .val (.tok 0), .val (.str w), .unset, .unset, .unset]) rfl ?_
  show ∃ ρ', ex (callF fns10 (m + 1)) s_law_takes _ = _
  obtain ⟨_, e, x, rfl⟩ := zgV (cf := callF fns10 (m + 1)) (b := tkB) (i := 4) (g := aP) (w := w) (I := fun a ρ => ∃ x, ρ = [.val (.list (L.map aP)), .val (.tok 0), .val (.str w), .val (atD a), x, .unset]) (fun k hk a ρ P h => by
    obtain ⟨x, rfl⟩ := h
    refine ⟨_, ?_, .val (aP k), rfl⟩
    have hi := zbU is10 (List.mem_range.mpr hk)
    unfold tkB
    by_cases h9 : k = 9
    · subst h9
      exact R_seq (R_ite (t := true) (T_of (V_op2 rfl rfl hi)) (R_tt (R_seq (zaj (E_of (zli rfl rfl hl P) rfl) rfl) (zal za9)))) (zal za9)
    · rw [decide_eq_false h9] at hi
      have ho := zbU (one10 m) (mem10 k hk h9)
      exact R_seq (R_ite (t := false) (T_of (V_op2 rfl rfl hi)) (R_ff (R_seq (zaj (E_of (zlh (k := k) rfl (fun _ => rfl) (fun _ => rfl) h9 fun p hp => zcz (zaw rfl (zaw (V_op2 rfl rfl (zj1 hp hl)) rfl)) rfl (zbU ho (hw _ (zgo hp 0)))) rfl) rfl) (zal za9)))) (zal za9)) hL (pl0 w) ⟨.unset, rfl⟩
  unfold tkB at e
  unfold s_law_takes
  exact ⟨_, R_seq (zaj (d := atD [0]) rfl rfl) (zal (R_seq (R_for (I_of (zfX rfl rfl rfl)) e) (zal (R_seq (R_ret (E_of (V_op2 (V_op1 rfl rfl) rfl zlT) rfl)) zaC))))⟩
theorem meant10 (m : Nat) {L w : List Nat} (hL : ∀ k ∈ L, k < 11) (hw : ∀ c ∈ w, c ∈ sg10) (hl : w.length ≤ 100) : ∃ b, callF fns10 (m + 1) 34 [.list (L.map aM), .str w] = some (.bool b) ∧ (b = true ↔ Mt L w) := by
  refine ⟨decide (w.length ∈ L.foldl (mv w) [0]), ?_, by rw [decide_eq_true_eq, znb]⟩
  refine zfh (fn := fn_law_meant) rfl (ρ := [.val (.list (L.map aM)), .val (.str w), .unset, .unset, .unset, .unset]) rfl ?_
  show ∃ ρ', ex (callF fns10 m) s_law_meant _ = _
  obtain ⟨_, e, x, y, rfl⟩ := zgV (cf := callF fns10 m) (b := mnB) (i := 3) (g := aM) (w := w) (I := fun a ρ => ∃ x y, ρ = [.val (.list (L.map aM)), .val (.str w), .val (atD a), x, y, .unset]) (fun k hk a ρ P h => by
    obtain ⟨x, y, rfl⟩ := h
    have hi := zbU ism10 (List.mem_range.mpr hk)
    unfold mnB
    by_cases h9 : k = 9
    · subst h9
      exact ⟨_, R_seq (R_ite (t := true) (T_of (V_op2 rfl rfl hi)) (R_tt (R_seq (zaj (E_of (zli rfl rfl hl P) rfl) rfl) (zal za9)))) (zal za9), _, _, rfl⟩
    · rw [decide_eq_false h9] at hi
      have hs := zbU (sgn10 (callF fns10 m) (.val (.list (L.map aM))) (.val (.str w)) (.val (atD a)) y .unset) (mem10 k hk h9)
      have ho := zbU sgi10 (mem10 k hk h9)
      exact ⟨_, R_seq (R_ite (t := false) (T_of (V_op2 rfl rfl hi)) (R_ff (R_seq (zaj (E_of hs rfl) rfl) (zal (R_seq (zaj (E_of (zlh (k := k) rfl (fun _ => rfl) (fun _ => rfl) h9 fun p hp => V_op2 (V_op2 rfl rfl (zj1 hp hl)) rfl (zbU ho (hw _ (zgo hp 0)))) rfl) rfl) (zal za9)))))) (zal za9), _, _, rfl⟩) hL (pl0 w) ⟨.unset, .unset, rfl⟩
  unfold mnB at e
  unfold s_law_meant
  exact ⟨_, R_seq (zaj (d := atD [0]) rfl rfl) (zal (R_seq (R_for (I_of (zfX rfl rfl rfl)) e) (zal (R_seq (R_ret (E_of (V_op2 (V_op1 rfl rfl) rfl zlT) rfl)) zaC))))⟩
end
end Mine
end P10cx
section P10dx
open PySem PySem.StrLaws PySem.Builtin PySem.Builtin.Str
namespace Mine
noncomputable def mgA (r : List Nat) (k : Nat) : List Nat := if k = 9 ∧ r.getLast? = some 9 then r else r ++ [k]
noncomputable def mg (as : List Nat) : List Nat := as.foldl mgA []
noncomputable def atO (k : Nat) : Option D := if k = 9 then none else some (aP k)
noncomputable def at2 (k : Nat) : List Nat × Option D := (aT k, atO k)
noncomputable def tx (as : List Nat) : List Nat := as.flatMap aT
theorem tok10 : (List.range 11).map (fun k => isTok0 (aP k)) = (List.range 11).map fun k => decide (k = 9) := by kernel_rfl
theorem push10 {r : List Nat} {k : Nat} (hr : ∀ k ∈ r, k < 11) : pushA (r.map aP) (atO k) = (mgA r k).map aP := by
  unfold atO mgA
  by_cases hk : k = 9
  · subst hk
    rw [if_pos rfl]
    unfold pushA
    rw [List.getLast?_map]
    cases e : r.getLast? with
    | none => rw [if_neg (by decide), if_neg (by simp), List.map_append]; rfl
    | some x =>
      have := zbU tok10 (List.mem_range.mpr (hr x (List.mem_of_getLast? e)))
      show (if some (isTok0 (aP x)) = some true then _ else _) = _
      rw [this]
      by_cases hx : x = 9
      · subst hx; rfl
      · rw [if_neg (by simp [hx]), if_neg (by simp [hx]), List.map_append]; rfl
  · rw [if_neg hk, if_neg fun h => hk h.1, List.map_append]; rfl
theorem mgA_lt {r : List Nat} {k : Nat} (hr : ∀ k ∈ r, k < 11) (hk : k < 11) : ∀ j ∈ mgA r k, j < 11 := by
  intro j hj
  unfold mgA at hj
  split at hj
  · exact hr j hj
  · rcases List.mem_append.mp hj with h | h
    · exact hr j h
    · rw [List.mem_singleton.mp h]; exact hk
theorem zjo : ∀ {as r : List Nat}, (∀ k ∈ as, k < 11) → (∀ k ∈ r, k < 11) → outA (r.map aP) (as.map at2) = (as.foldl mgA r).map aP ∧ ∀ k ∈ as.foldl mgA r, k < 11
  | [], r, _, hr => ⟨rfl, hr⟩
  | k :: as, r, h, hr => by
    have := zjo (as := as) (r := mgA r k) (fun j hj => h j (List.mem_cons_of_mem _ hj)) (mgA_lt hr (h k List.mem_cons_self))
    rw [← push10 hr] at this
    exact this
theorem mt_mgA {r : List Nat} {k : Nat} {q w : List Nat} : Mt (mgA r k ++ q) w ↔ Mt (r ++ k :: q) w := by
  unfold mgA
  split
  · rename_i h
    obtain ⟨rfl, h⟩ := h
    obtain ⟨r', rfl⟩ : ∃ r', r = r' ++ [9] := by
      rcases List.eq_nil_or_concat r with rfl | ⟨r', d, rfl⟩
      · cases h
      · rw [List.concat_eq_append] at h ⊢
        rw [List.getLast?_append] at h
        exact ⟨r', by cases h; rfl⟩
    rw [List.append_assoc, List.append_assoc]
    show Mt (r' ++ 9 :: q) w ↔ Mt (r' ++ 9 :: 9 :: q) w
    rw [Mt.app, Mt.app]
    have e : ∀ v, Mt (9 :: q) v ↔ Mt (9 :: 9 :: q) v := fun v => by
      constructor
      · intro h
        exact .star (u := []) h
      · intro h
        obtain ⟨a, b, rfl, h1⟩ := Mt.star_iff.mp h
        obtain ⟨c, d, rfl, h2⟩ := Mt.star_iff.mp h1
        rw [← List.append_assoc]
        exact .star h2
    simp only [e]
  · rw [List.append_assoc]; rfl
theorem mt_mg : ∀ {as r : List Nat} {w : List Nat}, Mt (as.foldl mgA r) w ↔ Mt (r ++ as) w
  | [], r, w => by rw [List.append_nil]; rfl
  | k :: as, r, w => by rw [List.foldl_cons, mt_mg, mt_mgA]
theorem atoms10 {k : Nat} (h : k < 11) : IsAtom10 (.str [46]) (aT k) (atO k) ∧ ∀ d, atO k = some d → GoodD d ∨ d = .tok 0 := by
  have hg : ∀ k, k < 11 → ∀ d, atO k = some d → GoodD d ∨ d = .tok 0 := fun k hk d e => by
    have g : (List.range 11).map (fun k => (atO k).map fun d => opF .isnot [d, .tok 0]) = (List.range 11).map fun k => (atO k).map fun _ => some (R.val (.bool true)) := by kernel_rfl
    have g := zbU g (List.mem_range.mpr hk)
    rw [e] at g
    exact .inl (Option.some.inj g)
  have all : ∀ k ∈ [0, 1, 2, 3, 4, 5, 6, 7, 8, 9, 10], IsAtom10 (.str [46]) (aT k) (atO k) := List.forall_mem_cons.mpr ⟨zel (by decide) (by decide) (by decide) (by decide), List.forall_mem_cons.mpr ⟨zel (by decide) (by decide) (by decide) (by decide), List.forall_mem_cons.mpr ⟨zel (by decide) (by decide) (by decide) (by decide), List.forall_mem_cons.mpr ⟨zmm, List.forall_mem_cons.mpr ⟨zk4, List.forall_mem_cons.mpr ⟨zk5, List.forall_mem_cons.mpr ⟨zk6, List.forall_mem_cons.mpr ⟨zjN, List.forall_mem_cons.mpr ⟨zjM, List.forall_mem_cons.mpr ⟨zi3, List.forall_mem_cons.mpr ⟨zel (by decide) (by decide) (by decide) (by decide), fun _ h => nomatch h⟩⟩⟩⟩⟩⟩⟩⟩⟩⟩⟩
  exact ⟨all k ((show ∀ k, k < 11 → k ∈ [0, 1, 2, 3, 4, 5, 6, 7, 8, 9, 10] by decide) k h), hg k h⟩
theorem zjT {as : List Nat} (h : ∀ k ∈ as, k < 11) : (tx as).length ≤ 6 * as.length := by
  have h6 : ∀ k, k < 11 → (aT k).length ≤ 6 := by decide
  induction as with
  | nil => exact Nat.le_refl _
  | cons k as ih =>
    have := ih fun j hj => h j (List.mem_cons_of_mem _ hj)
    show (aT k ++ tx as).length ≤ 6 * (as.length + 1)
    rw [List.length_append, Nat.mul_succ, Nat.add_comm]
    exact Nat.add_le_add this (h6 k (h k List.mem_cons_self))
theorem trans10 (m : Nat) {as : List Nat} (h : ∀ k ∈ as, k < 11) (hl : as.length ≤ 100) : callF fns10 (m + 2) 1 [.str (tx as), .tok 0, .str [46]] = some (.list ((mg as).map aP)) := by
  have ht : textA (as.map at2) = tx as := by unfold textA tx; rw [List.flatMap_map]; rfl
  have hx := zjT h
  have := zfp (fns := fns10) rfl rfl (q := .str [46]) (as := as.map at2) (fun a ha => by
    obtain ⟨k, hk, rfl⟩ := List.mem_map.mp ha
    exact atoms10 (h k hk)) (by rw [List.length_map]; exact Nat.le_trans hl (by decide)) (by rw [ht]; exact Nat.le_trans hx (Nat.le_trans (Nat.mul_le_mul_left 6 hl) (by decide))) m
  rw [ht, show ([] : List D) = ([] : List Nat).map aP from rfl, (zjo (r := []) h fun _ h => nomatch h).1] at this
  exact this
theorem tt10 (m : Nat) {as w : List Nat} (h : ∀ k ∈ as, k < 11) (hw : ∀ c ∈ w, c ∈ sg10) (hl : w.length ≤ 100) : ∃ b, callF fns10 (m + 2) 15 [.list ((mg as).map aP), .tok 0, .str w] = some (.bool b) ∧ (b = true ↔ Mt as w) := by
  obtain ⟨b, e, hb⟩ := takes10 m (zjo (r := []) h fun _ h => nomatch h).2 hw hl
  exact ⟨b, e, hb.trans mt_mg⟩
end Mine
end P10dx
section P10ex
open PySem PySem.StrLaws PySem.Builtin PySem.Builtin.Str
namespace Mine
noncomputable def pc10 (k : Nat) : List Nat := [[9], [0], [0, 9], [3], [4, 9], [9, 1], [5, 3], [2, 9], [6], [7, 1], [1], [9, 8], [0, 3, 1], [10]].getD k []
noncomputable def pcD (k : Nat) : D := .tup [.str (tx (pc10 k)), .list ((pc10 k).map aM)]
theorem pc_lt : ∀ k, k < 14 → (∀ j ∈ pc10 k, j < 11) ∧ (pc10 k).length ≤ 3 := by decide
theorem sgt10 : ∀ n ∈ U10, (∀ c ∈ tl n, c ∈ sg10) ∧ ∀ i ∈ List.range 4, ∀ c ∈ pt (n.drop i), c ∈ sg10 := by decide +kernel
theorem cut10 : ∀ n ∈ U10, ∀ p ∈ List.range 13, (tl n)[p]? = some 47 → p ≠ 0 → ∃ i ∈ List.range n.length, i ≠ 0 ∧ (tl n).take p = tl (n.take i) ∧ (tl n).drop (p + 1) = pt (n.drop i) := by decide +kernel
theorem glue10 : ∀ n ∈ U10, ∀ i ∈ List.range n.length, i ≠ 0 → tl n = tl (n.take i) ++ 47 :: pt (n.drop i) := by decide +kernel
theorem len12 : ∀ n ∈ U10, (tl n).length ≤ 12 := by decide +kernel
theorem both10 {H T : List Nat} {n : Nm} (hn : n ∈ U10) : Mt (10 :: (H ++ 10 :: T)) (tl n) ↔ ∃ i, i < n.length ∧ i ≠ 0 ∧ Mt (10 :: H) (tl (n.take i)) ∧ Mt T (pt (n.drop i)) := by
  rw [← List.cons_append, Mt.app]
  constructor
  · rintro ⟨u, v, e, h1, h2⟩
    obtain ⟨c, v, rfl, hc, h3⟩ := (Mt.one_iff (by decide)).mp h2
    cases List.mem_singleton.mp (show c ∈ [47] from hc)
    have hu : u.length ≠ 0 := fun h => by
      rw [List.length_eq_zero_iff.mp h] at h1
      obtain ⟨_, _, e, _⟩ := (Mt.one_iff (by decide)).mp h1
      cases e
    have hlen : u.length < 13 := by
      have := len12 n hn
      rw [e, List.length_append, List.length_cons] at this
      exact Nat.lt_of_le_of_lt (Nat.le_trans (Nat.le_add_right _ _) this) (by decide)
    obtain ⟨i, hi, h0, e1, e2⟩ := cut10 n hn u.length (List.mem_range.mpr hlen) (by rw [e, List.getElem?_append_right (Nat.le_refl _), Nat.sub_self]; rfl) hu
    rw [e, List.take_left] at e1
    rw [e, ← List.drop_drop, List.drop_left] at e2
    exact ⟨i, List.mem_range.mp hi, h0, e1 ▸ h1, e2 ▸ h3⟩
  · rintro ⟨i, hi, h0, h1, h2⟩
    exact ⟨_, _, glue10 n hn i (List.mem_range.mpr hi) h0, h1, .one (by decide) (List.mem_singleton.mpr rfl) h2⟩
theorem zmc (m l : Nat) : callF fns10 (m + 1) 17 [nI l] = some (pcD (l % 13)) := by
  refine zfh (fn := fn_law_dressed) rfl (ρ := [.val (nI l), .unset]) rfl ?_
  show ∃ ρ', ex (callF fns10 m) s_law_dressed _ = _
  have h : opF .index [.tup ((List.range 13).map pcD), nI (l % 13)] = some (.val (pcD (l % 13))) := by
    have hl : l % 13 < 13 := Nat.mod_lt _ (by decide)
    refine zh1 ?_ (Nat.le_trans (Nat.le_of_lt hl) (by decide))
    rw [List.getElem?_map, List.getElem?_range hl]; rfl
  unfold s_law_dressed
  exact ⟨_, R_seq (zaj (d := .tup ((List.range 13).map pcD)) rfl rfl) (zal (R_seq (R_ret (E_of (V_op2 rfl (V_op2 rfl rfl (o_mod (n := l) (k := 13) (by decide))) h) rfl)) zaC))⟩
end Mine
end P10ex
section P10fx
open PySem PySem.StrLaws PySem.Builtin PySem.Builtin.Str
namespace Mine
noncomputable def stB : S := (.seq (.assign 6 (.op .fdiv (.cons (.var 6) (.cons (.const (.int 4)) .nil)))) (.seq (.assign 7 (.call 4 (.cons (.var 7) (.cons (.op .index (.cons (.tup (.cons (.const (.str [97])) (.cons (.const (.str [98])) (.cons (.const (.str [46, 97])) (.cons (.const (.str [97, 98])) .nil))))) (.cons (.op .mod (.cons (.var 6) (.cons (.const (.int 4)) .nil))) .nil))) .nil)))) .skip))
noncomputable def whC : X := (.and (.op .ne (.cons (.var 10) (.cons (.const (.str [47])) .nil))) (.op .lt (.cons (.op .len (.cons (.var 9) .nil)) (.cons (.const (.int 9)) .nil))))
noncomputable def whB : S := (.seq (.assign 10 (.call 6 (.cons (.var 10) .nil))) (.seq (.append 9 (.tup (.cons (.var 10) (.cons (.call 11 (.cons (.var 7) (.cons (.var 10) .nil))) .nil)))) .skip))
noncomputable def chC : X := (.op .ne (.cons (.comp2 27 28 (.seqI (.var 9)) (.const (.bool true)) (.var 27)) (.cons (.comp 29 (.rangeI (.cons (.op .sub (.cons (.op .len (.cons (.var 11) .nil)) (.cons (.const (.int 1)) .nil))) (.cons (.const (.int 0)) (.cons (.op .neg (.cons (.const (.int 1)) .nil)) .nil)))) (.const (.bool true)) (.or (.op .join (.cons (.const (.str [47])) (.cons (.op .slice (.cons (.var 11) (.cons (.const .none) (.cons (.var 29) .nil)))) .nil))) (.const (.str [47])))) .nil)))
noncomputable def LL (f : Nat → Slot) : List Slot := [f 0, f 1, f 2, f 3, f 4, f 5, f 6, f 7, f 8, f 9, f 10, f 11, f 12, f 13, f 14, f 15, f 16, f 17, f 18, f 19, f 20, f 21, f 22, f 23, f 24, f 25, .unset, .unset, .unset, .unset, .unset, .unset, .unset, .unset, .unset, .unset, .unset, .unset]
theorem zjs {f : Nat → Slot} (h : NA f) {i : Nat} : noApp i (LL f) = true := by
  rw [zbI]
  unfold LL
  simp only [List.all_cons, List.all_nil, h _ i, zaP, Bool.and_true]
section
variable {cf : Nat → List D → Option D} {f : Nat → Slot}
theorem fz_LV {i : Nat} {l : List D} (h : LV l (f i)) (e : (LL f)[i]? = some (f i)) (e2 : ∀ v, (LL f).set i v = LL (upd f i v)) : ex cf (.fz i) (LL f) = some (LL (upd f i (.val (.list l))), .next) := by
  generalize hx : f i = x at h e
  cases h with
  | own => exact R_fz (by unfold ownAt; rw [e]) (e2 _)
  | val =>
    have : upd f i (.val (.list l)) = f := by
      funext k
      unfold upd
      split
      · rename_i h; rw [h, hx]
      · rfl
    rw [this]
    exact zmq (by unfold ownAt; rw [e])
theorem zlw {i : Nat} {l : List D} (e : (LL f)[i]? = some (f i)) (h : f i = .own l) : ownAt (LL f) i = some l := by
  unfold ownAt; rw [e, h]
set_option genInjectivity false in
structure CF10 (cf : Nat → List D → Option D) : Prop where
  h1 : ∀ as, (∀ k ∈ as, k < 11) → as.length ≤ 100 → cf 1 [.str (tx as), .tok 0, .str [46]] = some (.list ((mg as).map aP))
  h4 : ∀ a bs, a.length + lenS bs ≤ 1000 → bs.length ≤ 100 → cf 4 (.str a :: bs.map .str) = some (.str (joinP a bs))
  h6 : ∀ n ∈ U10, cf 6 [.str (tl n)] = some (.str (tl n.dropLast))
  h11 : ∀ n ∈ U10, ∀ i, i < n.length → cf 11 [.str (tl n), .str (tl (n.take i))] = some (.str (pt (n.drop i)))
  h15 : ∀ as w, (∀ k ∈ as, k < 11) → (∀ c ∈ w, c ∈ sg10) → w.length ≤ 100 → ∃ b, cf 15 [.list ((mg as).map aP), .tok 0, .str w] = some (.bool b) ∧ (b = true ↔ Mt as w)
  h17 : ∀ l, cf 17 [nI l] = some (pcD (l % 13))
  h34 : ∀ as w, (∀ k ∈ as, k < 11) → (∀ c ∈ w, c ∈ sg10) → w.length ≤ 100 → ∃ b, cf 34 [.list (as.map aM), .str w] = some (.bool b) ∧ (b = true ↔ Mt as w)
noncomputable def el10 (n : Nm) (i : Nat) : D := .tup [.str (tl (n.take i)), .str (pt (n.drop i))]
noncomputable def riS (n : Nm) (i : Nat) : List D := (List.range' i (n.length - i)).reverse.map (el10 n)
theorem zlm (n : Nm) (i : Nat) : (riS n i).length = n.length - i := by
  unfold riS; rw [List.length_map, List.length_reverse, List.length_range']
theorem zmz {n : Nm} {i : Nat} (h : i < n.length) : riS n (i + 1) ++ [el10 n i] = riS n i := by
  unfold riS
  rw [show n.length - i = n.length - (i + 1) + 1 by rw [← Nat.sub_sub, Nat.sub_add_cancel (Nat.sub_pos_of_lt h)], List.range'_succ, List.reverse_cons, List.map_append]; rfl
set_option genInjectivity false in
structure A10 (s : Nat → Nat) (P : List Nm) (f : Nat → Slot) : Prop where
  g1 : f 1 = .val (.tok 0)
  g3 : f 3 = .val (.list ((List.range 8).map fun k => .int (s k : Int)))
  g4 : f 4 = .own (P.map fun n => .str (tl n))
  g5 : f 5 = .own (P.map fun n => .list (riS n 0))
  na : NA f
variable {s : Nat → Nat} {P : List Nm}
theorem word_of (k : Nat) : opF .index [.tup (wd4.map .str), nI (k % 4)] = some (.val (.str (wd4.getD (k % 4) []))) ∧ wd4.getD (k % 4) [] ∈ wd4 := by
  have hk : k % 4 < 4 := Nat.mod_lt _ (by decide)
  generalize k % 4 = j at hk
  exact ⟨zh1 (zmn hk []) (Nat.le_trans (Nat.le_of_lt hk) (by decide)), zgo hk []⟩
theorem st_turn (C : CF10 cf) (G : A10 s P f) {l j : Nat} {n : Nm} (h6 : f 6 = .val (nI l)) (h7 : f 7 = .val (.str (tl n))) (hn : n ∈ V10) :
    ∃ f' w, ex cf stB (LL (upd f 8 (.val (nI j)))) = some (LL f', .next) ∧ A10 s P f' ∧ f' 6 = .val (nI (l / 4)) ∧ f' 7 = .val (.str (tl (n ++ [w]))) ∧ w ∈ wd4 := by
  obtain ⟨h1, hw⟩ := word_of (l / 4)
  generalize wd4.getD (l / 4 % 4) [] = w at h1 hw
  have hj := jn10 n hn w hw
  have hl := len12 _ hj.2
  have hc := C.h4 (tl n) [w] (by
    rw [← hj.1] at hl
    have h5 : ∀ n ∈ V10, ∀ w ∈ wd4, (tl n).length + lenS [w] ≤ 1000 := by decide +kernel
    exact h5 n hn w hw) (show 1 ≤ 100 by decide)
  rw [hj.1] at hc
  refine ⟨upd (upd (upd f 8 (.val (nI j))) 6 (.val (nI (l / 4)))) 7 (.val (.str (tl (n ++ [w])))), w, ?_, ⟨G.g1, G.g3, G.g4, G.g5, ((G.na.upd fun _ => rfl).upd fun _ => rfl).upd fun _ => rfl⟩, rfl, rfl, hw⟩
  have q6 : (upd f 8 (.val (nI j))) 6 = .val (nI l) := h6
  have q7 : (upd (upd f 8 (.val (nI j))) 6 (.val (nI (l / 4)))) 7 = .val (.str (tl n)) := h7
  unfold stB
  exact R_seq (zaj (ρ' := LL (upd (upd f 8 (.val (nI j))) 6 (.val (nI (l / 4))))) (E_of (V_op2 (V_v rfl q6) rfl (o_div (n := l) (k := 4) (by decide))) rfl) rfl) (zal (R_seq (zaj (E_of (zcz (zaw (V_v rfl q7) (zaw (V_op2 (a := .val (.tup (wd4.map .str))) rfl (V_op2 (V_v rfl rfl) rfl (o_mod (n := l / 4) (k := 4) (by decide))) h1) rfl)) rfl hc) rfl) rfl) (zal za9)))
theorem st_loop (C : CF10 cf) {m : Nat} (hm : m ≤ 4) (G : A10 s P f) {l : Nat} (h6 : f 6 = .val (nI l)) (h7 : f 7 = .val (.str (tl []))) :
    ∃ f' n, forGo (put1 8) (ex cf stB) ((List.range' 0 m).map nI) (LL f) = some (LL f', .next) ∧ A10 s P f' ∧ n ∈ U10 ∧ n.length = m ∧ f' 7 = .val (.str (tl n)) := by
  obtain ⟨ρ', e, f', n, l', rfl, G', hn, hl, _, h7'⟩ := zfe (cf := cf) (i := 8) (b := stB) (I := fun j ρ => ∃ f n l, ρ = LL f ∧ A10 s P f ∧ n ∈ U10 ∧ n.length = j ∧ f 6 = .val (nI l) ∧ f 7 = .val (.str (tl n))) (a := 0) (m := m) (ρ := LL f) ⟨f, [], l, rfl, G, List.mem_cons_self, rfl, h6, h7⟩ fun j ρ _ hj J => by
    obtain ⟨f, n, l, rfl, G, hn, hl, h6, h7⟩ := J
    have hV := inV10 n hn (by rw [hl]; exact Nat.le_of_lt_succ (Nat.lt_of_lt_of_le hj (by rw [Nat.zero_add]; exact hm)))
    obtain ⟨f', w, e, G', h6', h7', hw⟩ := st_turn (j := j) C G h6 h7 hV
    exact ⟨LL f', .next, e, .inl rfl, f', n ++ [w], _, rfl, G', (jn10 n hV w hw).2, by rw [List.length_append, hl]; rfl, h6', h7'⟩
  exact ⟨f', n, e, G', hn, by rw [hl, Nat.zero_add], h7'⟩
end
end Mine
end P10fx
section P10gx
open PySem PySem.StrLaws PySem.Builtin PySem.Builtin.Str
namespace Mine
noncomputable def aB : S := (.seq (.assign 6 (.op .add (.cons (.op .index (.cons (.var 3) (.cons (.var 2) .nil))) (.cons (.op .index (.cons (.tup (.cons (.const (.int 17)) (.cons (.const (.int 141)) (.cons (.const (.int 22)) (.cons (.const (.int 301)) .nil))))) (.cons (.var 2) .nil))) .nil)))) (.seq (.assign 7 (.const (.str [47]))) (.seq (.forE 8 (.rangeI (.cons (.op .add (.cons (.const (.int 1)) (.cons (.op .mod (.cons (.var 6) (.cons (.const (.int 4)) .nil))) .nil))) .nil)) stB) (.seq (.assignO 9 (.list .nil)) (.seq (.assign 10 (.var 7)) (.seq (.while whC whB) (.seq (.assign 11 (.op .split (.cons (.var 7) (.cons (.const (.str [47])) .nil)))) (.seq (.seq (.fz 9) (.ite chC (.seq (.ret (.const (.bool false))) .skip) .skip)) (.seq (.seq (.fz 9) (.ite (.op .ne (.cons (.comp2 30 31 (.seqI (.var 9)) (.op .ne (.cons (.call 4 (.cons (.var 30) (.cons (.var 31) .nil))) (.cons (.var 7) .nil))) (.const (.int 1))) (.cons (.list .nil) .nil))) (.seq (.ret (.const (.bool false))) .skip) .skip)) (.seq (.append 4 (.var 7)) (.seq (.seq (.fz 9) (.append 5 (.var 9))) .skip)))))))))))
section
variable {cf : Nat → List D → Option D} {f : Nat → Slot} {s : Nat → Nat} {P : List Nm}
theorem V_o {ρ : List Slot} {i : Nat} {x : Slot} {l : List D} (e : ρ[i]? = some x) (h : x = .own l) : ev cf (.var i) ρ = some [.bor l] := by rw [zbh, e, h]
theorem V_tup2 {ρ : List Slot} {x y : X} {d1 d2 : D} (h1 : ev cf x ρ = some [.val d1]) (h2 : ev cf y ρ = some [.val d2]) : ev cf (.tup (.cons x (.cons y .nil))) ρ = some [.val (.tup [d1, d2])] := by
  rw [zbr, zaw h1 (zaw h2 rfl)]; rfl
set_option genInjectivity false in
structure Wh10 (s : Nat → Nat) (P : List Nm) (n : Nm) (i : Nat) (f : Nat → Slot) : Prop extends A10 s P f where
  g7 : f 7 = .val (.str (tl n))
  g9 : f 9 = .own (riS n i)
  g10 : f 10 = .val (.str (tl (n.take i)))
theorem tk10 {n : Nm} (hn : n ∈ U10) (i : Nat) : n.take i ∈ U10 := by
  rcases Nat.lt_or_ge i n.length with h | h
  · exact (jr10 n hn i (List.mem_range.mpr h)).2
  · rw [List.take_of_length_le h]; exact hn
theorem rt10 : U10.map (fun n => decide (tl n = [47])) = U10.map fun n => decide (n = []) := by kernel_rfl
theorem spl10 : U10.tail.map (fun n => opF .split [.str (tl n), .str [47]]) = U10.tail.map fun n => some (.own (([] :: n).map .str)) := by kernel_rfl
theorem chk10 (cf : Nat → List D → Option D) (f : Nat → Slot) : U10.tail.map (fun n => ev cf chC (LL (upd (upd f 9 (.val (.list (riS n 0)))) 11 (.val (.list (([] :: n).map .str)))))) = U10.tail.map fun _ => some [.val (.bool false)] := by kernel_rfl
theorem tail10 {n : Nm} (hn : n ∈ U10) (h0 : n ≠ []) : n ∈ U10.tail := by
  rcases List.mem_cons.mp (show n ∈ [] :: U10.tail from hn) with h | h
  · exact absurd h h0
  · exact h
theorem zk8 (C : CF10 cf) {n : Nm} (hn : n ∈ U10) : ∀ (i fuel : Nat) {f : Nat → Slot}, i ≤ n.length → i ≤ fuel → Wh10 s P n i f → ∃ f', whileGo (evT cf whC) (ex cf whB) (fuel + 1) (LL f) = some (LL f', .next) ∧ Wh10 s P n 0 f'
  | 0, fuel, f, _, _, W => by
    refine ⟨f, za1 (t := false) ?_ zcg, W⟩
    unfold whC
    exact T_of (zkm (V_op2 (V_v rfl W.g10) rfl rfl))
  | i + 1, fuel + 1, f, hi, hf, W => by
    have ht := tk10 hn (i + 1)
    have hne : opF .ne [.str (tl (n.take (i + 1))), .str [47]] = some (.val (.bool true)) := by
      rw [ne_str, zbU rt10 ht, decide_eq_false]; · rfl
      intro h
      have := congrArg List.length h
      rw [List.length_take_of_le hi] at this
      cases this
    have hlt : opF .lt [nI (n.length - (i + 1)), .int 9] = some (.val (.bool true)) := by
      show some (R.val (.bool (decide (((n.length - (i + 1) : Nat) : Int) < 9)))) = _
      rw [decide_eq_true]
      exact Int.ofNat_lt.mpr (Nat.lt_of_le_of_lt (Nat.sub_le _ _) (Nat.lt_of_le_of_lt (len10 n hn).1 (by decide)))
    have hlen : opF .len [.list (riS n (i + 1))] = some (.val (nI (n.length - (i + 1)))) := by
      show some (R.val (.int ((riS n (i + 1)).length : Int))) = _
      rw [zlm]; rfl
    have c : evT cf whC (LL f) = some true := by
      unfold whC
      exact T_of (zkl (V_op2 (V_v rfl W.g10) rfl hne) (V_op2 (V_op1 (V_o rfl W.g9) hlen) rfl hlt))
    have hd := C.h6 _ ht
    rw [List.dropLast_eq_take, List.length_take_of_le hi, Nat.add_sub_cancel, List.take_take, Nat.min_eq_left (Nat.le_succ i)] at hd
    have hr := C.h11 n hn i hi
    have na : NA (upd (upd f 10 (.val (.str (tl (n.take i))))) 9 (.own (riS n i))) := (W.na.upd fun _ => rfl).upd fun _ => rfl
    have q7 : (upd f 10 (.val (.str (tl (n.take i))))) 7 = .val (.str (tl n)) := W.g7
    obtain ⟨f', e, W'⟩ := zk8 C hn i fuel (f := upd (upd f 10 (.val (.str (tl (n.take i))))) 9 (.own (riS n i))) (Nat.le_of_succ_le hi) (Nat.le_of_succ_le_succ hf) ⟨⟨W.g1, W.g3, W.g4, W.g5, na⟩, W.g7, rfl, rfl⟩
    refine ⟨f', za1 (t := true) c (R_wGo ?_ (zcf e)), W'⟩
    unfold whB
    exact R_seq (zaj (ρ' := LL (upd f 10 (.val (.str (tl (n.take i)))))) (E_of (zcz (zaw (V_v rfl W.g10) rfl) rfl hd) rfl) rfl) (zal (R_seq (zbz (E_of (V_tup2 (V_v rfl rfl) (zcz (zaw (V_v rfl q7) (zaw (V_v rfl rfl) rfl)) rfl hr)) rfl) (zlw (f := upd f 10 (.val (.str (tl (n.take i))))) (i := 9) rfl W.g9) (by rw [zlm]; exact Nat.lt_of_le_of_lt (Nat.sub_le _ _) (Nat.lt_of_le_of_lt (len10 n hn).1 (by decide))) (by rw [show (.tup [.str (tl (n.take i)), .str (pt (n.drop i))] : D) = el10 n i from rfl, zmz hi]; rfl)) (zal za9)))
theorem ck2 (C : CF10 cf) {n : Nm} (hn : n ∈ U10) {ρ : List Slot} (g9 : ρ[9]? = some (.val (.list (riS n 0)))) (g : ∀ a b, ((ρ.set 30 a).set 31 b)[30]? = some a ∧ ((ρ.set 30 a).set 31 b)[31]? = some b ∧ ((ρ.set 30 a).set 31 b)[7]? = some (.val (.str (tl n)))) :
    evT cf (.op .ne (.cons (.comp2 30 31 (.seqI (.var 9)) (.op .ne (.cons (.call 4 (.cons (.var 30) (.cons (.var 31) .nil))) (.cons (.var 7) .nil))) (.const (.int 1))) (.cons (.list .nil) .nil))) ρ = some false := by
  have h := zjQ (cf := cf) (ρ := ρ) (i := 30) (j := 31) (it := .seqI (.var 9)) (cd := .op .ne (.cons (.call 4 (.cons (.var 30) (.cons (.var 31) .nil))) (.cons (.var 7) .nil))) (e := .const (.int 1)) (l := (List.range' 0 (n.length - 0)).reverse) (g1 := fun i => .str (tl (n.take i))) (g2 := fun i => .str (pt (n.drop i))) (v := fun _ => .int 1) (p := fun _ => false) (zfX (V_v g9 rfl) rfl rfl) fun i hi => by
    have hi : i < n.length := by
      have := (List.mem_range'_1.mp (List.mem_reverse.mp hi)).2
      rw [Nat.zero_add, Nat.sub_zero] at this
      exact this
    obtain ⟨h1, h2, h3⟩ := g (.val (.str (tl (n.take i)))) (.val (.str (pt (n.drop i))))
    have hj := jr10 n hn i (List.mem_range.mpr hi)
    have hc := C.h4 (tl (n.take i)) [pt (n.drop i)] (by
      have a1 := (len10 _ hj.2).2
      have a2 := (lr10 n hn i (List.mem_range.mpr hi)).1
      exact Nat.le_trans (Nat.add_le_add a1 (show lenS [pt (n.drop i)] ≤ 21 from Nat.succ_le_succ a2)) (by decide)) (show 1 ≤ 100 by decide)
    rw [hj.1] at hc
    exact zgv (p := false) (r := .val (.int 1)) (V_op2 (zcz (zaw (V_v h1 rfl) (zaw (V_v h2 rfl) rfl)) rfl hc) (V_v h3 rfl) (by show opF .ne [.str (tl n), .str (tl n)] = _; rw [ne_str, decide_eq_true rfl]; rfl)) (fun h => nomatch h) rfl
  rw [List.filter_eq_nil_iff.mpr fun _ _ => Bool.false_ne_true] at h
  exact T_of (V_op2 h rfl rfl)
end
end Mine
end P10gx
section P10hx
open PySem PySem.StrLaws PySem.Builtin PySem.Builtin.Str
namespace Mine
section
variable {cf : Nat → List D → Option D} {f : Nat → Slot} {s : Nat → Nat} {P : List Nm}
theorem zm6 {k : Nat} (h : k < 8) : opF .index [.list ((List.range 8).map fun k => .int (s k : Int)), nI k] = some (.val (nI (s k))) := by
  refine ze0 ?_ (Nat.le_trans (Nat.le_of_lt h) (by decide))
  rw [List.getElem?_map, List.getElem?_range h]; rfl
theorem a_turn (C : CF10 cf) (G : A10 s P f) (hP : P.length ≤ 100) {k : Nat} (hk : k < 4) :
    ∃ f' n, ex cf aB (LL (upd f 2 (.val (nI k)))) = some (LL f', .next) ∧ A10 s (P ++ [n]) f' ∧ n ∈ U10 := by
  have i1 := zm6 (s := s) (Nat.lt_trans hk (by decide : 4 < 8))
  have i2 := zld (l := [17, 141, 22, 301]) (k := k) hk (Nat.le_trans (Nat.le_of_lt hk) (by decide))
  have i3 := zj4 (a := s k) (b := ([17, 141, 22, 301] : List Nat).getD k 0)
  generalize s k + ([17, 141, 22, 301] : List Nat).getD k 0 = l at i3
  have hm := Nat.mod_lt l (show 4 > 0 by decide)
  have hm4 : 1 + l % 4 ≤ 4 := by rw [Nat.add_comm]; exact hm
  have q3 : (upd f 2 (.val (nI k))) 3 = .val (.list ((List.range 8).map fun k => .int (s k : Int))) := G.g3
  obtain ⟨f1, n, e1, G1, hn, hl, g7⟩ := st_loop (f := upd (upd (upd f 2 (.val (nI k))) 6 (.val (nI l))) 7 (.val (.str (tl [])))) C hm4 ⟨G.g1, G.g3, G.g4, G.g5, ((G.na.upd fun _ => rfl).upd fun _ => rfl).upd fun _ => rfl⟩ rfl rfl
  have h0 : n ≠ [] := fun e => by rw [e] at hl; exact absurd hl.symm (Nat.ne_of_gt (Nat.lt_of_lt_of_le Nat.zero_lt_one (Nat.le_add_right _ _)))
  have ht := tail10 hn h0
  have na2 : NA (upd (upd f1 9 (.own [])) 10 (.val (.str (tl n)))) := (G1.na.upd fun _ => rfl).upd fun _ => rfl
  have r0 : Slot.own [] = .own (riS n n.length) := by unfold riS; rw [Nat.sub_self]; rfl
  obtain ⟨f2, e2, W⟩ := zk8 C hn n.length 99999 (f := upd (upd f1 9 (.own [])) 10 (.val (.str (tl n)))) (Nat.le_refl _) (Nat.le_trans (len10 n hn).1 (by decide)) ⟨⟨G1.g1, G1.g3, G1.g4, G1.g5, na2⟩, g7, r0, by rw [List.take_length]; rfl⟩
  have na3 : NA (upd (upd f2 11 (.val (.list (([] :: n).map .str)))) 9 (.val (.list (riS n 0)))) := (W.na.upd fun _ => rfl).upd fun _ => rfl
  have z1 : ex cf (.fz 9) (LL (upd f2 11 (.val (.list (([] :: n).map .str))))) = some (LL (upd (upd f2 11 (.val (.list (([] :: n).map .str)))) 9 (.val (.list (riS n 0)))), .next) := fz_LV (by show LV _ (f2 9); rw [W.g9]; exact .own) rfl fun _ => rfl
  have z2 : ∀ g : Nat → Slot, g 9 = .val (.list (riS n 0)) → ex cf (.fz 9) (LL g) = some (LL g, .next) := fun g h => zmq (by unfold ownAt; show (match some (g 9) with | some (.own l) => some l | _ => none) = _; rw [h])
  have c1 := zbU (chk10 cf (upd (upd f2 11 (.val (.list (([] :: n).map .str)))) 9 (.val (.list (riS n 0))))) ht
  have c2 : evT cf _ (LL (upd (upd f2 11 (.val (.list (([] :: n).map .str)))) 9 (.val (.list (riS n 0))))) = _ := ck2 C hn rfl fun a b => ⟨rfl, rfl, congrArg some W.g7⟩
  have q7 : (upd (upd f2 11 (.val (.list (([] :: n).map .str)))) 9 (.val (.list (riS n 0)))) 7 = .val (.str (tl n)) := W.g7
  have o4 : (P.map fun n => D.str (tl n)) ++ [.str (tl n)] = (P ++ [n]).map fun n => D.str (tl n) := by rw [List.map_append]; rfl
  have o5 : (P.map fun n => D.list (riS n 0)) ++ [.list (riS n 0)] = (P ++ [n]).map fun n => D.list (riS n 0) := by rw [List.map_append]; rfl
  have hP' : ∀ {g : Nm → D}, (P.map g).length < lim := fun {g} => by rw [List.length_map]; exact Nat.lt_of_le_of_lt hP (by decide)
  refine ⟨upd (upd (upd (upd f2 11 (.val (.list (([] :: n).map .str)))) 9 (.val (.list (riS n 0)))) 4 (.own ((P ++ [n]).map fun n => .str (tl n)))) 5 (.own ((P ++ [n]).map fun n => .list (riS n 0))), n, ?_, ⟨W.g1, W.g3, rfl, rfl, (na3.upd fun _ => rfl).upd fun _ => rfl⟩, hn⟩
  unfold stB at e1
  unfold whC whB at e2
  unfold chC at c1
  unfold aB
  exact R_seq (zaj (ρ' := LL (upd (upd f 2 (.val (nI k))) 6 (.val (nI l)))) (E_of (V_op2 (V_op2 (V_v rfl q3) (V_v rfl rfl) i1) (V_op2 (a := .val (.tup (([17, 141, 22, 301] : List Nat).map fun (n : Nat) => .int (n : Int)))) rfl (V_v rfl rfl) i2) i3) rfl) rfl) (zal
    (R_seq (zaj (d := .str (tl [])) rfl rfl) (zal
    (R_seq (R_for (I_of (zem (zaw (V_op2 rfl (V_op2 (V_v rfl rfl) rfl (o_mod (n := l) (k := 4) (by decide))) (zj4 (a := 1))) rfl) (zc3 (Nat.le_trans hm4 (by decide))))) e1) (zal
    (R_seq (za3 (ρ' := LL (upd f1 9 (.own []))) (zjs G1.na) (l := []) rfl rfl) (zal
    (R_seq (zaj (E_of (V_v rfl g7) rfl) rfl) (zal
    (R_seq (zce e2) (zal
    (R_seq (zaj (E_of (V_op2 (V_v rfl W.g7) rfl (zbU spl10 ht)) rfl) rfl) (zal
    (R_seq (R_seq z1 (zal (R_ite (t := false) (T_of c1) (R_ff za9)))) (zal
    (R_seq (R_seq (z2 _ rfl) (zal (R_ite (t := false) c2 (R_ff za9)))) (zal
    (R_seq (zbz (ρ' := LL (upd (upd (upd f2 11 (.val (.list (([] :: n).map .str)))) 9 (.val (.list (riS n 0)))) 4 (.own ((P ++ [n]).map fun n => .str (tl n))))) (E_of (V_v rfl q7) rfl) (zlw (f := upd (upd f2 11 (.val (.list (([] :: n).map .str)))) 9 (.val (.list (riS n 0)))) (i := 4) rfl W.g4) hP' (by rw [o4]; rfl)) (zal
    (R_seq (R_seq (z2 _ rfl) (zal (zbz (E_of (V_v rfl rfl) rfl) (zlw (f := upd (upd (upd f2 11 (.val (.list (([] :: n).map .str)))) 9 (.val (.list (riS n 0)))) 4 (.own ((P ++ [n]).map fun n => .str (tl n)))) (i := 5) rfl W.g5) hP' (by rw [o5]; rfl)))) (zal za9)))))))))))))))))))))
inductive AI (s : Nat → Nat) (k : Nat) : List Slot → Prop
  | mk {f : Nat → Slot} {P : List Nm} : A10 s P f → P.length = k → (∀ n ∈ P, n ∈ U10) → AI s k (LL f)
theorem a_loop (C : CF10 cf) (G : A10 s [] f) : ∃ f' P, forGo (put1 2) (ex cf aB) ((List.range' 0 4).map nI) (LL f) = some (LL f', .next) ∧ A10 s P f' ∧ P.length = 4 ∧ ∀ n ∈ P, n ∈ U10 := by
  obtain ⟨ρ', e, J⟩ := zfe (cf := cf) (i := 2) (b := aB) (I := AI s) (a := 0) (m := 4) (ρ := LL f) (.mk G rfl fun _ h => nomatch h) fun k ρ _ hk J => by
    cases J with
    | @mk f P G hl hU =>
      obtain ⟨f', n, e, G', hn⟩ := a_turn C G (by rw [hl]; exact Nat.le_trans (Nat.le_of_lt hk) (by decide)) hk
      refine ⟨LL f', .next, e, .inl rfl, .mk G' (by rw [List.length_append, hl]; rfl) fun m hm => ?_⟩
      rcases List.mem_append.mp hm with h | h
      · exact hU m h
      · rw [List.mem_singleton.mp h]; exact hn
  generalize hρ : ρ' = ρ at J
  cases J with
  | @mk f' P G' hl hU => exact ⟨f', P, hρ ▸ e, G', hl, hU⟩
end
end Mine
end P10hx
section P10ix
open PySem PySem.StrLaws PySem.Builtin PySem.Builtin.Str
namespace Mine
noncomputable def btX : X := (.ite (.op .eq (.cons (.op .mod (.cons (.var 6) (.cons (.const (.int 2)) .nil))) (.cons (.const (.int 1)) .nil))) (.list (.cons (.tup (.cons (.const (.str [47])) (.cons (.list (.cons (.const (.str [47])) .nil)) .nil))) .nil)) (.list .nil))
noncomputable def itB : S := (.seq (.assign 20 (.op .add (.cons (.var 20) (.cons (.var 17) .nil)))) .skip)
noncomputable def mtB (as w : List Nat) : Bool := @decide (Mt as w) (Classical.propDecidable _)
theorem mtB_iff {as w : List Nat} : mtB as w = true ↔ Mt as w := by unfold mtB; exact @decide_eq_true_iff _ (Classical.propDecidable _)
theorem znc {as w : List Nat} {b : Bool} (h : b = true ↔ Mt as w) : b = mtB as w := Bool.eq_iff_iff.mpr (h.trans mtB_iff.symm)
noncomputable def rw10 (L : List Nat) : List Nat := L.flatMap pc10
theorem rw_lt {L : List Nat} (h : ∀ k ∈ L, k < 14) : (∀ j ∈ rw10 L, j < 11) ∧ (rw10 L).length ≤ 3 * L.length := by
  induction L with
  | nil => exact ⟨fun _ h => (nomatch h), Nat.le_refl _⟩
  | cons k L ih =>
    obtain ⟨h1, h2⟩ := pc_lt k (h k List.mem_cons_self)
    obtain ⟨h3, h4⟩ := ih fun j hj => h j (List.mem_cons_of_mem _ hj)
    refine ⟨fun j hj => (List.mem_append.mp (show j ∈ pc10 k ++ rw10 L from hj)).elim (h1 j) (h3 j), ?_⟩
    show (pc10 k ++ rw10 L).length ≤ 3 * (L.length + 1)
    rw [List.length_append, Nat.mul_succ, Nat.add_comm]
    exact Nat.add_le_add h4 h2
theorem zlb {a b : List Nat} : tx (a ++ b) = tx a ++ tx b := List.flatMap_append
theorem joinE : ∀ L : List Nat, joinL [] (L.map fun k => tx (pc10 k)) = tx (rw10 L)
  | [] => rfl
  | [k] => by
    show tx (pc10 k) = tx (pc10 k ++ [])
    rw [List.append_nil]
  | k :: j :: L => by
    show tx (pc10 k) ++ [] ++ joinL [] ((j :: L).map fun k => tx (pc10 k)) = tx (pc10 k ++ rw10 (j :: L))
    rw [joinE (j :: L), List.append_nil, zlb]
theorem strsT : ∀ L : List Nat, toStrs (L.map fun k => .str (tx (pc10 k))) = some (L.map fun k => tx (pc10 k))
  | [] => rfl
  | k :: L => by rw [List.map_cons]; unfold toStrs; rw [strsT L]; rfl
theorem o_joinE {L : List Nat} (h : ∀ k ∈ L, k < 14) (hl : L.length ≤ 10) : opF .join [.str [], .list (L.map fun k => .str (tx (pc10 k)))] = some (.val (.str (tx (rw10 L)))) := by
  show (match toStrs (L.map fun k => .str (tx (pc10 k))) with
    | some ls => if (joinL [] ls).length ≤ lim then some (R.val (.str (joinL [] ls))) else none
    | none => none) = _
  obtain ⟨h1, h2⟩ := rw_lt h
  rw [strsT]
  simp only [joinE]
  rw [if_pos (Nat.le_trans (zjT h1) (Nat.le_trans (Nat.mul_le_mul_left 6 (Nat.le_trans h2 (Nat.mul_le_mul_left 3 hl))) (by decide)))]
section
variable {cf : Nat → List D → Option D} {f : Nat → Slot} {s : Nat → Nat} {P : List Nm}
theorem zm1 {ρ : List Slot} {α : Type} {i j : Nat} {it e : X} {l : List α} {g1 g2 v : α → D} (h : ev cf it ρ = some [.val (.list (l.map fun a => .tup [g1 a, g2 a]))])
    (hg : ∀ a ∈ l, ev cf e ((ρ.set i (.val (g1 a))).set j (.val (g2 a))) = some [.val (v a)]) : ev cf (.comp2 i j it (.const (.bool true)) e) ρ = some [.own (l.map v)] := by
  have := zjQ (cf := cf) (i := i) (j := j) (cd := .const (.bool true)) (e := e) (p := fun _ => true) (v := v) h fun a ha => zgv (p := true) (d := v a) rfl (fun _ => hg a ha) rfl
  rw [List.filter_eq_self.mpr fun _ _ => rfl] at this
  exact this
theorem zm3 {ρ : List Slot} {i j : Nat} {it : X} {L : List Nat} (h : ev cf it ρ = some [.val (.list (L.map pcD))]) (hL : ∀ k ∈ L, k < 14) (hl : L.length ≤ 10) (g : ∀ a b, ((ρ.set i a).set j b)[i]? = some a) :
    ev cf (.op .join (.cons (.const (.str [])) (.cons (.comp2 i j it (.const (.bool true)) (.var i)) .nil))) ρ = some [.val (.str (tx (rw10 L)))] :=
  V_op2 rfl (zm1 (g1 := fun k => .str (tx (pc10 k))) (g2 := fun k => .list ((pc10 k).map aM)) (v := fun k => .str (tx (pc10 k))) h fun k _ => V_v (g _ _) rfl) (o_joinE hL hl)
theorem bt_ev {ρ : List Slot} {l : Nat} (g : ρ[6]? = some (.val (nI l))) : ∃ (r : R) (bt : List Nat), ev cf btX ρ = some [r] ∧ r.fz = some (.list (bt.map pcD)) ∧ bt.length ≤ 1 ∧ ∀ k ∈ bt, k < 14 := by
  have hm : opF .mod [nI l, .int 2] = some (.val (nI (l % 2))) := o_mod (n := l) (k := 2) (by decide)
  have hc : ev cf (.op .eq (.cons (.op .mod (.cons (.var 6) (.cons (.const (.int 2)) .nil))) (.cons (.const (.int 1)) .nil))) ρ = some [.val (.bool (decide (((l % 2 : Nat) : Int) = 1)))] := V_op2 (V_op2 (V_v g rfl) rfl hm) rfl rfl
  unfold btX
  cases h : decide (((l % 2 : Nat) : Int) = 1) with
  | true => exact ⟨.own [pcD 13], [13], zmZ (h ▸ hc) rfl, rfl, Nat.le_refl _, by decide⟩
  | false => exact ⟨.own [], [], zm0 (h ▸ hc) rfl, rfl, Nat.zero_le _, fun _ h => nomatch h⟩
set_option genInjectivity false in
structure B10 (s : Nat → Nat) (P : List Nm) (f : Nat → Slot) : Prop where
  g1 : f 1 = .val (.tok 0)
  g3 : f 3 = .val (.list ((List.range 8).map fun k => .int (s k : Int)))
  g4 : f 4 = .own (P.map fun n => .str (tl n))
  g5 : LV (P.map fun n => .list (riS n 0)) (f 5)
  na : NA f
theorem zlP : ∀ {L I : List Nat} {f : Nat → Slot}, (∀ k ∈ L, k < 14) → I.length + 3 * L.length ≤ 100 → B10 s P f → f 20 = .val (.list (I.map aM)) →
    ∃ f', forGo (put2 16 17) (ex cf itB) (L.map pcD) (LL f) = some (LL f', .next) ∧ B10 s P f' ∧ f' 18 = f 18 ∧ f' 19 = f 19 ∧ f' 20 = .val (.list ((I ++ rw10 L).map aM))
  | [], I, f, _, _, G, h => ⟨f, rfl, G, rfl, rfl, by rw [h]; show _ = Slot.val (.list ((I ++ []).map aM)); rw [List.append_nil]⟩
  | k :: L, I, f, hL, hl, G, h => by
    have na : NA (upd (upd (upd f 16 (.val (.str (tx (pc10 k))))) 17 (.val (.list ((pc10 k).map aM)))) 20 (.val (.list ((I ++ pc10 k).map aM)))) := ((G.na.upd fun _ => rfl).upd fun _ => rfl).upd fun _ => rfl
    have hp := (pc_lt k (hL k List.mem_cons_self)).2
    rw [List.length_cons, Nat.mul_succ] at hl
    have hl2 : (I ++ pc10 k).length + 3 * L.length ≤ 100 := by
      rw [List.length_append, Nat.add_assoc, Nat.add_comm (pc10 k).length]
      exact Nat.le_trans (Nat.add_le_add_left (Nat.add_le_add_left hp _) _) hl
    obtain ⟨f', e, G', e18, e19, e20⟩ := zlP (L := L) (I := I ++ pc10 k) (f := upd (upd (upd f 16 (.val (.str (tx (pc10 k))))) 17 (.val (.list ((pc10 k).map aM)))) 20 (.val (.list ((I ++ pc10 k).map aM)))) (fun j hj => hL j (List.mem_cons_of_mem _ hj)) hl2 ⟨G.g1, G.g3, G.g4, G.g5, na⟩ rfl
    refine ⟨f', za2 (st := put2 16 17) (ρ₁ := LL (upd (upd f 16 (.val (.str (tx (pc10 k))))) 17 (.val (.list ((pc10 k).map aM))))) rfl ?_ (zbQ e), G', e18, e19, by rw [e20, List.append_assoc]; rfl⟩
    have q20 : (upd (upd f 16 (.val (.str (tx (pc10 k))))) 17 (.val (.list ((pc10 k).map aM)))) 20 = .val (.list (I.map aM)) := h
    have ha : opF .add [.list (I.map aM), .list ((pc10 k).map aM)] = some (.own ((I ++ pc10 k).map aM)) := by
      rw [zgK (by rw [List.length_map, List.length_map, ← List.length_append]; exact Nat.le_trans (Nat.le_add_right _ _) (Nat.le_trans hl2 (by decide))), List.map_append]
    unfold itB
    exact R_seq (zaj (E_of (V_op2 (V_v rfl q20) (V_v rfl rfl) ha) rfl) rfl) (zal za9)
end
end Mine
end P10ix
section P10jx
open PySem PySem.StrLaws PySem.Builtin PySem.Builtin.Str
namespace Mine
noncomputable def nB : S := (.seq (.assign 24 (.call 15 (.cons (.var 23) (.cons (.var 1) (.cons (.op .index (.cons (.var 4) (.cons (.var 12) .nil))) .nil))))) (.seq (.seq (.fz 5) (.assign 25 (.comp2 36 37 (.seqI (.op .index (.cons (.var 5) (.cons (.var 12) .nil)))) (.and (.op .ne (.cons (.var 36) (.cons (.const (.str [47])) .nil))) (.and (.call 15 (.cons (.var 21) (.cons (.var 1) (.cons (.var 36) .nil)))) (.call 15 (.cons (.var 22) (.cons (.var 1) (.cons (.var 37) .nil)))))) (.const (.int 1))))) (.seq (.ite (.or (.op .ne (.cons (.var 24) (.cons (.op .ne (.cons (.var 25) (.cons (.list .nil) .nil))) .nil))) (.op .ne (.cons (.var 24) (.cons (.call 34 (.cons (.var 20) (.cons (.op .index (.cons (.var 4) (.cons (.var 12) .nil))) .nil))) .nil)))) (.seq (.ret (.const (.bool false))) .skip) .skip) .skip)))
theorem ne_bb {b : Bool} : opF .ne [.bool b, .bool b] = some (.val (.bool false)) := by cases b <;> rfl
theorem ne_ones {l : List Nat} : opF .ne [.list (l.map fun _ => .int 1), .list []] = some (.val (.bool (!l.isEmpty))) := by
  have ho : (D.list (l.map fun _ => D.int 1)).ok 9 = true := by
    unfold D.ok
    exact zjq (fun _ => rfl) l
  have e : eqD (.list (l.map fun _ => .int 1)) (.list []) = some l.isEmpty := by
    show (if ((D.list (l.map fun _ => D.int 1)).ok 9 && (D.list []).ok 9) = true then some (PyData.eqv (D.list (l.map fun _ => D.int 1)).toPy (D.list []).toPy) else none) = _
    rw [ho]
    cases l <;> rfl
  show ((eqD (.list (l.map fun _ => .int 1)) (.list [])).map (!·)).map (fun x => R.val (.bool x)) = _
  rw [e]; rfl
section
variable {cf : Nat → List D → Option D} {f : Nat → Slot} {s : Nat → Nat} {P : List Nm}
theorem V_or_ff {ρ : List Slot} {x y : X} {a : R} (h1 : ev cf x ρ = some [.val (.bool false)]) (h2 : ev cf y ρ = some [a]) : ev cf (.or x y) ρ = some [a] := by rw [zb1, h1]; exact h2
set_option genInjectivity false in
structure N10 (s : Nat → Nat) (P : List Nm) (H T : List Nat) (f : Nat → Slot) : Prop extends B10 s P f where
  g20 : f 20 = .val (.list ((10 :: (H ++ 10 :: T)).map aM))
  g21 : f 21 = .val (.list ((mg (10 :: H)).map aP))
  g22 : f 22 = .val (.list ((mg T).map aP))
  g23 : f 23 = .val (.list ((mg (10 :: (H ++ 10 :: T))).map aP))
set_option genInjectivity false in
structure HT (H T : List Nat) : Prop where
  h : ∀ k ∈ H, k < 11
  t : ∀ k ∈ T, k < 11
theorem HT.one {H T : List Nat} (K : HT H T) : ∀ k ∈ 10 :: H, k < 11 := List.forall_mem_cons.mpr ⟨by decide, K.h⟩
theorem HT.all {H T : List Nat} (K : HT H T) : ∀ k ∈ 10 :: (H ++ 10 :: T), k < 11 := List.forall_mem_cons.mpr ⟨by decide, fun k hk => (List.mem_append.mp hk).elim (K.h k) ((List.forall_mem_cons.mpr ⟨by decide, K.t⟩) k)⟩
noncomputable def pp10 (H T : List Nat) (n : Nm) (i : Nat) : Bool := !decide (tl (n.take i) = [47]) && (mtB (10 :: H) (tl (n.take i)) && mtB T (pt (n.drop i)))
theorem some10 {H T : List Nat} {n : Nm} (hn : n ∈ U10) : mtB (10 :: (H ++ 10 :: T)) (tl n) = !((List.range' 0 (n.length - 0)).reverse.filter (pp10 H T n)).isEmpty := by
  have hr : ∀ i, (tl (n.take i) = [47]) = (n.take i = []) := fun i => propext (decide_eq_decide.mp (zbU rt10 (tk10 hn i)))
  rw [Bool.eq_iff_iff, mtB_iff, both10 hn, Bool.not_eq_true', ← Bool.not_eq_true, List.isEmpty_iff, ← ne_eq, (⟨List.exists_mem_of_ne_nil _, fun ⟨_, h⟩ => List.ne_nil_of_mem h⟩ : (List.range' 0 (n.length - 0)).reverse.filter (pp10 H T n) ≠ [] ↔ ∃ i, i ∈ (List.range' 0 (n.length - 0)).reverse.filter (pp10 H T n))]
  have hi : ∀ i, i ∈ (List.range' 0 (n.length - 0)).reverse ↔ i < n.length := fun i => by
    rw [List.mem_reverse, List.mem_range'_1, Nat.zero_add, Nat.sub_zero]
    exact ⟨fun h => h.2, fun h => ⟨Nat.zero_le _, h⟩⟩
  refine exists_congr fun i => ?_
  rw [List.mem_filter, hi]
  unfold pp10
  simp only [Bool.and_eq_true, Bool.not_eq_true', decide_eq_false_iff_not, mtB_iff, hr]
  constructor
  · rintro ⟨h, h0, h1, h2⟩
    refine ⟨h, fun e => ?_, h1, h2⟩
    have := congrArg List.length e
    rw [List.length_take_of_le (Nat.le_of_lt h)] at this
    exact h0 this
  · rintro ⟨h, h0, h1, h2⟩
    exact ⟨h, fun e => h0 (by rw [e]; rfl), h1, h2⟩
theorem zmi (C : CF10 cf) {as w : List Nat} (h : ∀ k ∈ as, k < 11) (hw : ∀ c ∈ w, c ∈ sg10) (hl : w.length ≤ 20) : cf 15 [.list ((mg as).map aP), .tok 0, .str w] = some (.bool (mtB as w)) := by
  obtain ⟨b, e, hb⟩ := C.h15 as w h hw (Nat.le_trans hl (by decide))
  rw [e, znc hb]
theorem call34 (C : CF10 cf) {as w : List Nat} (h : ∀ k ∈ as, k < 11) (hw : ∀ c ∈ w, c ∈ sg10) (hl : w.length ≤ 20) : cf 34 [.list (as.map aM), .str w] = some (.bool (mtB as w)) := by
  obtain ⟨b, e, hb⟩ := C.h34 as w h hw (Nat.le_trans hl (by decide))
  rw [e, znc hb]
theorem n_turn (C : CF10 cf) {H T : List Nat} (K : HT H T) {n : Nm} (hn : n ∈ U10) {j : Nat} (hj : j < P.length) (hP : P.length = 4) (e : P.getD j [] = n) (G : N10 s P H T f) :
    ∃ f', ex cf nB (LL (upd f 12 (.val (nI j)))) = some (LL f', .next) ∧ N10 s P H T f' := by
  have hjm : j ≤ 1000000 := Nat.le_trans (Nat.le_of_lt hj) (by rw [hP]; decide)
  have i4 : opF .index [.list (P.map fun n => .str (tl n)), nI j] = some (.val (.str (tl n))) := by rw [← e]; exact ze0 (zmn hj []) hjm
  have i5 : opF .index [.list (P.map fun n => .list (riS n 0)), nI j] = some (.val (.list (riS n 0))) := by rw [← e]; exact ze0 (zmn hj []) hjm
  have hs := (sgt10 n hn).1
  have hl := (len10 n hn).2
  have c1 := zmi C K.all hs hl
  have c2 := call34 C K.all hs hl
  have b1 := some10 (H := H) (T := T) hn
  have na : NA (upd (upd (upd (upd f 12 (.val (nI j))) 24 (.val (.bool (mtB (10 :: (H ++ 10 :: T)) (tl n))))) 5 (.val (.list (P.map fun n => .list (riS n 0))))) 25 (.val (.list (((List.range' 0 (n.length - 0)).reverse.filter (pp10 H T n)).map fun _ => .int 1)))) := (((G.na.upd fun _ => rfl).upd fun _ => rfl).upd fun _ => rfl).upd fun _ => rfl
  refine ⟨upd (upd (upd (upd f 12 (.val (nI j))) 24 (.val (.bool (mtB (10 :: (H ++ 10 :: T)) (tl n))))) 5 (.val (.list (P.map fun n => .list (riS n 0))))) 25 (.val (.list (((List.range' 0 (n.length - 0)).reverse.filter (pp10 H T n)).map fun _ => .int 1))), ?_, ⟨⟨G.g1, G.g3, G.g4, .val, na⟩, G.g20, G.g21, G.g22, G.g23⟩⟩
  have q1 : (upd f 12 (.val (nI j))) 1 = .val (.tok 0) := G.g1
  have q4 : (upd f 12 (.val (nI j))) 4 = .own (P.map fun n => .str (tl n)) := G.g4
  have q23 : (upd f 12 (.val (nI j))) 23 = .val (.list ((mg (10 :: (H ++ 10 :: T))).map aP)) := G.g23
  have z : ex cf (.fz 5) (LL (upd (upd f 12 (.val (nI j))) 24 (.val (.bool (mtB (10 :: (H ++ 10 :: T)) (tl n)))))) = some (LL (upd (upd (upd f 12 (.val (nI j))) 24 (.val (.bool (mtB (10 :: (H ++ 10 :: T)) (tl n))))) 5 (.val (.list (P.map fun n => .list (riS n 0))))), .next) := fz_LV G.g5 rfl fun _ => rfl
  have v : ev cf (.comp2 36 37 (.seqI (.op .index (.cons (.var 5) (.cons (.var 12) .nil)))) (.and (.op .ne (.cons (.var 36) (.cons (.const (.str [47])) .nil))) (.and (.call 15 (.cons (.var 21) (.cons (.var 1) (.cons (.var 36) .nil)))) (.call 15 (.cons (.var 22) (.cons (.var 1) (.cons (.var 37) .nil)))))) (.const (.int 1))) (LL (upd (upd (upd f 12 (.val (nI j))) 24 (.val (.bool (mtB (10 :: (H ++ 10 :: T)) (tl n))))) 5 (.val (.list (P.map fun n => .list (riS n 0)))))) = some [.own (((List.range' 0 (n.length - 0)).reverse.filter (pp10 H T n)).map fun _ => .int 1)] := by
    refine zjQ (g1 := fun i => .str (tl (n.take i))) (g2 := fun i => .str (pt (n.drop i))) (zfX (V_op2 (V_v rfl rfl) (V_v rfl rfl) i5) rfl rfl) fun i hi => ?_
    have hi : i < n.length := by
      have := (List.mem_range'_1.mp (List.mem_reverse.mp hi)).2
      rw [Nat.zero_add, Nat.sub_zero] at this
      exact this
    have ht := tk10 hn i
    have a1 := zmi C K.one (sgt10 _ ht).1 (len10 _ ht).2
    have a2 := zmi C K.t ((sgt10 n hn).2 i (List.mem_range.mpr (Nat.lt_of_lt_of_le hi (len10 n hn).1))) (lr10 n hn i (List.mem_range.mpr hi)).1
    exact zgv (V_and (V_op2 (V_v rfl rfl) rfl (ne_str _ _)) fun _ => V_and (zcz (zaw (V_v rfl G.g21) (zaw (V_v rfl G.g1) (zaw (V_v rfl rfl) rfl))) rfl a1) fun _ => zcz (zaw (V_v rfl G.g22) (zaw (V_v rfl G.g1) (zaw (V_v rfl rfl) rfl))) rfl a2) (fun _ => rfl) rfl
  have hne := ne_ones (l := (List.range' 0 (n.length - 0)).reverse.filter (pp10 H T n))
  rw [← b1] at hne
  generalize mtB (10 :: (H ++ 10 :: T)) (tl n) = b at *
  generalize ((List.range' 0 (n.length - 0)).reverse.filter (pp10 H T n)).map (fun _ => D.int 1) = ones at *
  unfold nB
  exact R_seq (zaj (E_of (zcz (zaw (V_v rfl q23) (zaw (V_v rfl q1) (zaw (V_op2 (V_o rfl q4) (V_v rfl rfl) i4) rfl))) rfl c1) rfl) rfl) (zal (R_seq (R_seq z (zal (zaj (E_of v rfl) rfl))) (zal
    (R_seq (R_ite (t := false) (T_of (V_or_ff (V_op2 (V_v rfl rfl) (V_op2 (V_v rfl rfl) rfl hne) ne_bb) (V_op2 (V_v rfl rfl) (zcz (zaw (V_v rfl G.g20) (zaw (V_op2 (V_o rfl G.g4) (V_v rfl rfl) i4) rfl)) rfl c2) ne_bb))) (R_ff za9)) (zal za9)))))
end
end Mine
end P10jx
section P10kx
open PySem PySem.StrLaws PySem.Builtin PySem.Builtin.Str
namespace Mine
noncomputable def bB : S := (.seq (.assign 6 (.op .add (.cons (.op .index (.cons (.var 3) (.cons (.op .add (.cons (.const (.int 4)) (.cons (.var 2) .nil))) .nil))) (.cons (.op .index (.cons (.tup (.cons (.const (.int 0)) (.cons (.const (.int 1001)) (.cons (.const (.int 30)) (.cons (.const (.int 414)) .nil))))) (.cons (.var 2) .nil))) .nil)))) (.seq (.assign 13 (.list (.cons (.call 17 (.cons (.var 6) .nil)) (.cons (.call 17 (.cons (.op .fdiv (.cons (.var 6) (.cons (.const (.int 13)) .nil))) .nil)) .nil)))) (.seq (.assign 14 (.list (.cons (.call 17 (.cons (.op .fdiv (.cons (.var 6) (.cons (.const (.int 169)) .nil))) .nil)) (.cons (.call 17 (.cons (.op .fdiv (.cons (.var 6) (.cons (.const (.int 26)) .nil))) .nil)) .nil)))) (.seq (.assign 15 btX) (.seq (.assign 18 (.op .join (.cons (.const (.str [])) (.cons (.comp2 32 33 (.seqI (.var 13)) (.const (.bool true)) (.var 32)) .nil)))) (.seq (.assign 19 (.op .join (.cons (.const (.str [])) (.cons (.comp2 34 35 (.seqI (.op .add (.cons (.op .add (.cons (.op .slice (.cons (.var 14) (.cons (.const .none) (.cons (.const (.int 1)) .nil)))) (.cons (.var 15) .nil))) (.cons (.op .slice (.cons (.var 14) (.cons (.const (.int 1)) (.cons (.const .none) .nil)))) .nil)))) (.const (.bool true)) (.var 34)) .nil)))) (.seq (.assign 20 (.list (.cons (.const (.str [47])) .nil))) (.seq (.forE2 16 17 (.seqI (.op .add (.cons (.op .add (.cons (.op .add (.cons (.op .add (.cons (.var 13) (.cons (.list (.cons (.tup (.cons (.const (.str [47])) (.cons (.list (.cons (.const (.str [47])) .nil)) .nil))) .nil)) .nil))) (.cons (.op .slice (.cons (.var 14) (.cons (.const .none) (.cons (.const (.int 1)) .nil)))) .nil))) (.cons (.var 15) .nil))) (.cons (.op .slice (.cons (.var 14) (.cons (.const (.int 1)) (.cons (.const .none) .nil)))) .nil)))) itB) (.seq (.assign 21 (.call 1 (.cons (.op .add (.cons (.const (.str [47])) (.cons (.var 18) .nil))) (.cons (.var 1) (.cons (.const (.str [46])) .nil))))) (.seq (.assign 22 (.call 1 (.cons (.var 19) (.cons (.var 1) (.cons (.const (.str [46])) .nil))))) (.seq (.assign 23 (.call 1 (.cons (.call 4 (.cons (.const (.str [47])) (.cons (.var 18) (.cons (.var 19) .nil)))) (.cons (.var 1) (.cons (.const (.str [46])) .nil))))) (.seq (.forE 12 (.rangeI (.cons (.const (.int 4)) .nil)) nB) .skip))))))))))))
theorem jt10 : ∀ c1 ∈ List.range 13, ∀ c2 ∈ List.range 13, join1 [47] (tx (rw10 [c1, c2])) = 47 :: tx (rw10 [c1, c2]) ∧ (47 :: tx (rw10 [c1, c2])).getLast? ≠ some 47 := by decide +kernel
theorem ht10 : ∀ c ∈ List.range 13, (tx (pc10 c)).head?.getD 47 ≠ 47 := by decide +kernel
theorem whole10 {c1 c2 c3 : Nat} {r : List Nat} (h1 : c1 < 13) (h2 : c2 < 13) (h3 : c3 < 13) : joinP [47] [tx (rw10 [c1, c2]), tx (rw10 (c3 :: r))] = tx (10 :: (rw10 [c1, c2] ++ 10 :: rw10 (c3 :: r))) := by
  obtain ⟨e, hl⟩ := jt10 c1 (List.mem_range.mpr h1) c2 (List.mem_range.mpr h2)
  show join1 (join1 [47] (tx (rw10 [c1, c2]))) (tx (rw10 (c3 :: r))) = 47 :: tx (rw10 [c1, c2] ++ 10 :: rw10 (c3 :: r))
  have hh : ¬ ((tx (rw10 (c3 :: r))).head? = some 47 ∨ 47 :: tx (rw10 [c1, c2]) = []) := by
    have h := ht10 c3 (List.mem_range.mpr h3)
    rw [show rw10 (c3 :: r) = pc10 c3 ++ rw10 r from rfl, zlb, List.head?_append]
    rintro (h' | h')
    · cases e : (tx (pc10 c3)).head? with
      | none => rw [e] at h; exact h rfl
      | some x =>
        rw [e] at h h'
        cases h'
        exact h rfl
    · cases h'
  unfold join1 at e ⊢
  rw [e, if_neg hh, if_neg hl, zlb]; rfl
section
variable {cf : Nat → List D → Option D} {f : Nat → Slot} {s : Nat → Nat} {P : List Nm}
theorem zmp {ρ : List Slot} {x y : X} {d1 d2 : D} (h1 : ev cf x ρ = some [.val d1]) (h2 : ev cf y ρ = some [.val d2]) : ev cf (.list (.cons x (.cons y .nil))) ρ = some [.own [d1, d2]] := by
  rw [zaY, zaw h1 (zaw h2 rfl)]; rfl
theorem n_loop (C : CF10 cf) {H T : List Nat} (K : HT H T) (hP : P.length = 4) (hU : ∀ n ∈ P, n ∈ U10) (G : N10 s P H T f) : ∃ f', forGo (put1 12) (ex cf nB) ((List.range' 0 4).map nI) (LL f) = some (LL f', .next) ∧ N10 s P H T f' := by
  obtain ⟨ρ', e, f', rfl, G'⟩ := zfe (cf := cf) (i := 12) (b := nB) (I := fun _ ρ => ∃ f, ρ = LL f ∧ N10 s P H T f) (a := 0) (m := 4) (ρ := LL f) ⟨f, rfl, G⟩ fun j ρ _ hj J => by
    obtain ⟨f, rfl, G⟩ := J
    have hj' : j < P.length := by rw [hP]; exact hj
    obtain ⟨f', e, G'⟩ := n_turn C K (hU _ (zgo hj' [])) hj' hP rfl G
    exact ⟨LL f', .next, e, .inl rfl, f', rfl, G'⟩
  exact ⟨f', e, G'⟩
theorem b_turn (C : CF10 cf) (hP : P.length = 4) (hU : ∀ n ∈ P, n ∈ U10) {k : Nat} (hk : k < 4) (G : B10 s P f) :
    ∃ f', ex cf bB (LL (upd f 2 (.val (nI k)))) = some (LL f', .next) ∧ B10 s P f' := by
  have i1 := zm6 (s := s) (k := 4 + k) (Nat.add_lt_add_left hk 4)
  have i2 := zld (l := [0, 1001, 30, 414]) (k := k) hk (Nat.le_trans (Nat.le_of_lt hk) (by decide))
  have i3 := zj4 (a := s (4 + k)) (b := ([0, 1001, 30, 414] : List Nat).getD k 0)
  have i0 : opF .add [.int 4, nI k] = some (.val (nI (4 + k))) := zj4 (a := 4)
  generalize s (4 + k) + ([0, 1001, 30, 414] : List Nat).getD k 0 = l at i3
  have q3 : (upd f 2 (.val (nI k))) 3 = .val (.list ((List.range 8).map fun k => .int (s k : Int))) := G.g3
  have d1 := C.h17 l
  have d2 := C.h17 (l / 13)
  have d3 := C.h17 (l / 169)
  have d4 := C.h17 (l / 26)
  have m1 := Nat.mod_lt l (show 13 > 0 by decide)
  have m2 := Nat.mod_lt (l / 13) (show 13 > 0 by decide)
  have m3 := Nat.mod_lt (l / 169) (show 13 > 0 by decide)
  have m4 := Nat.mod_lt (l / 26) (show 13 > 0 by decide)
  have v2 : opF .fdiv [nI l, .int 13] = some (.val (nI (l / 13))) := o_div (n := l) (k := 13) (by decide)
  have v3 : opF .fdiv [nI l, .int 169] = some (.val (nI (l / 169))) := o_div (n := l) (k := 169) (by decide)
  have v4 : opF .fdiv [nI l, .int 26] = some (.val (nI (l / 26))) := o_div (n := l) (k := 26) (by decide)
  generalize l % 13 = c1 at d1 m1
  generalize l / 13 = l2 at d2 m2 v2
  generalize l2 % 13 = c2 at d2 m2
  generalize l / 169 = l3 at d3 m3 v3
  generalize l3 % 13 = c3 at d3 m3
  generalize l / 26 = l4 at d4 m4 v4
  generalize l4 % 13 = c4 at d4 m4
  let f1 := upd (upd f 2 (.val (nI k))) 6 (.val (nI l))
  let f3 := upd (upd f1 13 (.val (.list [pcD c1, pcD c2]))) 14 (.val (.list [pcD c3, pcD c4]))
  obtain ⟨r, bt, eb, zb, bl, bk⟩ := bt_ev (cf := cf) (ρ := LL f3) (l := l) rfl
  have hH : ∀ k ∈ [c1, c2], k < 14 := List.forall_mem_cons.mpr ⟨Nat.lt_succ_of_lt m1, List.forall_mem_cons.mpr ⟨Nat.lt_succ_of_lt m2, fun _ h => nomatch h⟩⟩
  have hT : ∀ k ∈ [c3] ++ bt ++ [c4], k < 14 := fun k hk => by
    rcases List.mem_append.mp hk with h | h
    · rcases List.mem_append.mp h with h | h
      · rw [List.mem_singleton.mp h]; exact Nat.lt_succ_of_lt m3
      · exact bk k h
    · rw [List.mem_singleton.mp h]; exact Nat.lt_succ_of_lt m4
  have lT : ([c3] ++ bt ++ [c4]).length ≤ 3 := by
    rw [List.length_append, List.length_append]
    exact Nat.add_le_add_right (Nat.add_le_add_left bl 1) 1
  have s1 : opF .slice [.list [pcD c3, pcD c4], .none, .int 1] = some (.own [pcD c3]) := rfl
  have s2 : opF .slice [.list [pcD c3, pcD c4], .int 1, .none] = some (.own [pcD c4]) := rfl
  have a1 : opF .add [.list [pcD c3], .list (bt.map pcD)] = some (.own ([pcD c3] ++ bt.map pcD)) := zgK (by rw [List.length_map]; exact Nat.le_trans (Nat.add_le_add_left bl 1) (by decide))
  have a2 : opF .add [.list ([pcD c3] ++ bt.map pcD), .list [pcD c4]] = some (.own (([c3] ++ bt ++ [c4]).map pcD)) := by
    rw [zgK (by rw [List.length_append, List.length_map]; exact Nat.le_trans (Nat.add_le_add_right (Nat.add_le_add_left bl 1) 1) (by decide)), List.map_append, List.map_append]; rfl
  have b1 : opF .add [.list [pcD c1, pcD c2], .list [pcD 13]] = some (.own [pcD c1, pcD c2, pcD 13]) := zgK (show 2 + 1 ≤ lim by decide)
  have b2 : opF .add [.list [pcD c1, pcD c2, pcD 13], .list [pcD c3]] = some (.own [pcD c1, pcD c2, pcD 13, pcD c3]) := zgK (show 3 + 1 ≤ lim by decide)
  have b3 : opF .add [.list [pcD c1, pcD c2, pcD 13, pcD c3], .list (bt.map pcD)] = some (.own ([pcD c1, pcD c2, pcD 13, pcD c3] ++ bt.map pcD)) := zgK (by rw [List.length_map]; exact Nat.le_trans (Nat.add_le_add_left bl 4) (by decide))
  have b4 : opF .add [.list ([pcD c1, pcD c2, pcD 13, pcD c3] ++ bt.map pcD), .list [pcD c4]] = some (.own (([c1, c2] ++ 13 :: ([c3] ++ bt ++ [c4])).map pcD)) := by
    rw [zgK (by rw [List.length_append, List.length_map]; exact Nat.le_trans (Nat.add_le_add_right (Nat.add_le_add_left bl 4) 1) (by decide))]
    show some (R.own (pcD c1 :: pcD c2 :: pcD 13 :: pcD c3 :: (bt.map pcD ++ [pcD c4]))) = some (R.own (pcD c1 :: pcD c2 :: pcD 13 :: pcD c3 :: (bt ++ [c4]).map pcD))
    rw [List.map_append]; rfl
  have eW : rw10 ([c1, c2] ++ 13 :: ([c3] ++ bt ++ [c4])) = rw10 [c1, c2] ++ 10 :: rw10 ([c3] ++ bt ++ [c4]) := List.flatMap_append
  have hA : ∀ k ∈ [c1, c2] ++ 13 :: ([c3] ++ bt ++ [c4]), k < 14 := fun k hk => (List.mem_append.mp hk).elim (hH k) ((List.forall_mem_cons.mpr ⟨by decide, hT⟩) k)
  have lA : ([c1, c2] ++ 13 :: ([c3] ++ bt ++ [c4])).length ≤ 6 := Nat.add_le_add_right lT 3
  obtain ⟨kH, nH⟩ := rw_lt hH
  obtain ⟨kT, nT⟩ := rw_lt hT
  have hw := whole10 (r := bt ++ [c4]) m1 m2 m3
  have lH : (rw10 [c1, c2]).length ≤ 6 := nH
  have lT' : (rw10 ([c3] ++ bt ++ [c4])).length ≤ 9 := Nat.le_trans nT (Nat.mul_le_mul_left 3 lT)
  have K : HT (rw10 [c1, c2]) (rw10 ([c3] ++ bt ++ [c4])) := ⟨kH, kT⟩
  have t1 := zjT kH
  have t2 := zjT kT
  have hj := C.h4 [47] [tx (rw10 [c1, c2]), tx (rw10 ([c3] ++ bt ++ [c4]))] (by
    show 1 + ((tx (rw10 [c1, c2])).length + 1 + ((tx (rw10 ([c3] ++ bt ++ [c4]))).length + 1 + 0)) ≤ 1000
    clear eW hw eb d1 d2 d3 d4
    omega) (show 2 ≤ 100 by decide)
  rw [show tx (rw10 ([c3] ++ bt ++ [c4])) = tx (rw10 (c3 :: (bt ++ [c4]))) from rfl, hw] at hj
  have u1 := C.h1 (10 :: rw10 [c1, c2]) K.one (Nat.le_trans (Nat.succ_le_succ lH) (by decide))
  have u2 := C.h1 (rw10 ([c3] ++ bt ++ [c4])) kT (Nat.le_trans lT' (by decide))
  have u3 := C.h1 (10 :: (rw10 [c1, c2] ++ 10 :: rw10 ([c3] ++ bt ++ [c4]))) K.all (by
    rw [List.length_cons, List.length_append, List.length_cons]
    exact Nat.le_trans (Nat.succ_le_succ (Nat.add_le_add lH (Nat.succ_le_succ lT'))) (by decide))
  have x1 : opF .add [.str [47], .str (tx (rw10 [c1, c2]))] = some (.val (.str (tx (10 :: rw10 [c1, c2])))) := zj3 (Nat.le_trans (Nat.add_le_add_left (Nat.le_trans t1 (Nat.mul_le_mul_left 6 lH)) 1) (by decide))
  have e13 : (upd f1 13 (.val (.list [pcD c1, pcD c2]))) 6 = .val (nI l) := rfl
  let f4 := upd f3 15 (.val (.list (bt.map pcD)))
  have hh := zm3 (cf := cf) (ρ := LL f4) (i := 32) (j := 33) (it := .seqI (.var 13)) (L := [c1, c2]) (zfX (V_v rfl rfl) rfl rfl) hH (show 2 ≤ 10 by decide) fun _ _ => rfl
  let f5 := upd f4 18 (.val (.str (tx (rw10 [c1, c2]))))
  have ht := zm3 (cf := cf) (ρ := LL f5) (i := 34) (j := 35) (it := .seqI (.op .add (.cons (.op .add (.cons (.op .slice (.cons (.var 14) (.cons (.const .none) (.cons (.const (.int 1)) .nil)))) (.cons (.var 15) .nil))) (.cons (.op .slice (.cons (.var 14) (.cons (.const (.int 1)) (.cons (.const .none) .nil)))) .nil)))) (L := [c3] ++ bt ++ [c4]) (zfX (V_op2 (V_op2 (V_op3 (V_v rfl rfl) rfl rfl s1) (V_v rfl rfl) a1) (V_op3 (V_v rfl rfl) rfl rfl s2) a2) rfl rfl) hT (Nat.le_trans lT (by decide)) fun _ _ => rfl
  let f7 := upd (upd f5 19 (.val (.str (tx (rw10 ([c3] ++ bt ++ [c4])))))) 20 (.val (.list ([10].map aM)))
  have na7 : NA f7 := ((((((((G.na.upd fun _ => rfl).upd fun _ => rfl).upd fun _ => rfl).upd fun _ => rfl).upd fun _ => rfl).upd fun _ => rfl).upd fun _ => rfl).upd fun _ => rfl)
  obtain ⟨f8, e8, G8, e18, e19, e20⟩ := zlP (cf := cf) (s := s) (P := P) (L := [c1, c2] ++ 13 :: ([c3] ++ bt ++ [c4])) (I := [10]) (f := f7) hA (Nat.le_trans (Nat.add_le_add_left (Nat.mul_le_mul_left 3 lA) 1) (by decide)) ⟨G.g1, G.g3, G.g4, G.g5, na7⟩ rfl
  rw [eW] at e20
  replace e18 : f8 18 = .val (.str (tx (rw10 [c1, c2]))) := e18
  replace e19 : f8 19 = .val (.str (tx (rw10 ([c3] ++ bt ++ [c4])))) := e19
  let f9 := upd (upd (upd f8 21 (.val (.list ((mg (10 :: rw10 [c1, c2])).map aP)))) 22 (.val (.list ((mg (rw10 ([c3] ++ bt ++ [c4]))).map aP)))) 23 (.val (.list ((mg (10 :: (rw10 [c1, c2] ++ 10 :: rw10 ([c3] ++ bt ++ [c4])))).map aP)))
  have na9 : NA f9 := ((G8.na.upd fun _ => rfl).upd fun _ => rfl).upd fun _ => rfl
  obtain ⟨f', e', G'⟩ := n_loop C K hP hU (f := f9) ⟨⟨G8.g1, G8.g3, G8.g4, G8.g5, na9⟩, e20, rfl, rfl, rfl⟩
  refine ⟨f', ?_, G'.toB10⟩
  unfold btX at eb
  unfold itB at e8
  unfold nB at e'
  unfold bB
  exact R_seq (zaj (ρ' := LL f1) (E_of (V_op2 (V_op2 (V_v rfl q3) (V_op2 rfl (V_v rfl rfl) i0) i1) (V_op2 (a := .val (.tup (([0, 1001, 30, 414] : List Nat).map fun (n : Nat) => .int (n : Int)))) rfl (V_v rfl rfl) i2) i3) rfl) rfl) (zal
    (R_seq (zaj (ρ' := LL (upd f1 13 (.val (.list [pcD c1, pcD c2])))) (E_of (zmp (zcz (zaw (V_v rfl rfl) rfl) rfl d1) (zcz (zaw (V_op2 (V_v rfl rfl) rfl v2) rfl) rfl d2)) rfl) rfl) (zal
    (R_seq (zaj (ρ' := LL f3) (E_of (zmp (zcz (zaw (V_op2 (V_v rfl rfl) rfl v3) rfl) rfl d3) (zcz (zaw (V_op2 (V_v rfl rfl) rfl v4) rfl) rfl d4)) rfl) rfl) (zal
    (R_seq (zaj (ρ' := LL f4) (E_of eb zb) rfl) (zal
    (R_seq (zaj (ρ' := LL f5) (E_of hh rfl) rfl) (zal
    (R_seq (zaj (ρ' := LL (upd f5 19 (.val (.str (tx (rw10 ([c3] ++ bt ++ [c4])))))))  (E_of ht rfl) rfl) (zal
    (R_seq (zaj (ρ' := LL f7) (d := .list ([10].map aM)) rfl rfl) (zal
    (R_seq (R_for2 (I_of (zfX (V_op2 (V_op2 (V_op2 (V_op2 (V_v rfl rfl) (show ev cf (.list (.cons (.tup (.cons (.const (.str [47])) (.cons (.list (.cons (.const (.str [47])) .nil)) .nil))) .nil)) _ = some [.own [pcD 13]] from rfl) b1) (V_op3 (V_v rfl rfl) rfl rfl s1) b2) (V_v rfl rfl) b3) (V_op3 (V_v rfl rfl) rfl rfl s2) b4) rfl rfl)) e8) (zal
    (R_seq (zaj (E_of (zcz (zaw (V_op2 rfl (V_v rfl e18) x1) (zaw (V_v rfl G8.g1) (zaw rfl rfl))) rfl u1) rfl) rfl) (zal
    (R_seq (zaj (E_of (zcz (zaw (V_v rfl e19) (zaw (V_v rfl G8.g1) (zaw rfl rfl))) rfl u2) rfl) rfl) (zal
    (R_seq (zaj (ρ' := LL f9) (E_of (zcz (zaw (zcz (zaw rfl (zaw (V_v rfl e18) (zaw (V_v rfl e19) rfl))) rfl hj) (zaw (V_v rfl G8.g1) (zaw rfl rfl))) rfl u3) rfl) rfl) (zal
    (R_seq (R_for (I_of (zem (zaw rfl rfl) (zc3 (n := 4) (by decide)))) e') (zal za9)))))))))))))))))))))))
end
end Mine
end P10kx
section P10zx
open PySem PySem.StrLaws PySem.Builtin PySem.Builtin.Str
namespace Mine
noncomputable def S10 (ns : List Int) (k : Nat) : Nat := (pick ns (some (k : Int)) none (some 8)).sum.natAbs
theorem cf10 : CF10 (callF fns10 40) where
  h1 := fun as h hl => trans10 38 h hl
  h4 := fun a bs h hn => join_ok (fns := fns10) rfl rfl rfl 38 (Nat.le_trans h (by decide)) (Nat.lt_of_le_of_lt hn (by decide))
  h6 := fun n hn => zbU (dir10 38) hn
  h11 := fun n hn i hi => rel10 35 hn hi
  h15 := fun as w h hw hl => tt10 38 h hw hl
  h17 := fun l => zmc 39 l
  h34 := fun as w h hw hl => meant10 39 h hw hl
theorem zkI (ns : List Int) : ∃ ρ', ex (callF fns10 40) s_law [.val (.list (ns.map .int)), .val (.tok 0), .unset, .unset, .unset, .unset, .unset, .unset, .unset, .unset, .unset, .unset, .unset, .unset, .unset, .unset, .unset, .unset, .unset, .unset, .unset, .unset, .unset, .unset, .unset, .unset, .unset, .unset, .unset, .unset, .unset, .unset, .unset, .unset, .unset, .unset, .unset, .unset] = some (ρ', .ret (.bool true)) := by
  have C := cf10
  generalize callF fns10 40 = cf at C
  let f0 : Nat → Slot := fun k => if k = 0 then .val (.list (ns.map .int)) else if k = 1 then .val (.tok 0) else .unset
  let f1 := upd f0 3 (.val (.list ((List.range 8).map fun k => .int (S10 ns k : Int))))
  let f3 := upd (upd f1 4 (.own [])) 5 (.own [])
  have n0 : NA f0 := fun i k => by
    show appOK k (if i = 0 then _ else if i = 1 then _ else _) = true
    split
    · rfl
    · split <;> rfl
  have n1 : NA f1 := n0.upd fun _ => rfl
  have n2 : NA (upd f1 4 (.own [])) := n1.upd fun _ => rfl
  have n3 : NA f3 := n2.upd fun _ => rfl
  have e1 : ev cf (.comp 26 (.rangeI (.cons (.const (.int 8)) .nil)) (.const (.bool true)) (.op .abs (.cons (.op .sum (.cons (.op .slice3 (.cons (.var 0) (.cons (.var 26) (.cons (.const .none) (.cons (.const (.int 8)) .nil))))) .nil)) .nil))) (LL f0) = some [.own ((List.range' 0 8).map fun k => .int (S10 ns k : Int))] := by
    refine V_compT (g := nI) (zem (zaw rfl rfl) (zc3 (n := 8) (by decide))) fun k hk => ?_
    have hk := List.mem_range'_1.mp hk
    exact ⟨_, V_op1 (V_op1 (V_op (zaw rfl (zaw rfl (zaw rfl (zaw rfl rfl)))) (zmJ (ns := ns) (k := k) (n := 8) (Nat.le_trans (Nat.le_of_lt hk.2) (by decide)) (by decide) (by decide))) o_sumi) o_absi, rfl⟩
  obtain ⟨f4, P, l4, G, hP, hU⟩ := a_loop (s := S10 ns) (f := f3) C ⟨rfl, rfl, rfl, rfl, n3⟩
  obtain ⟨ρ', l5, _⟩ := zfe (cf := cf) (i := 2) (b := bB) (I := fun _ ρ => ∃ f, ρ = LL f ∧ B10 (S10 ns) P f) (a := 0) (m := 4) (ρ := LL f4) ⟨f4, rfl, G.g1, G.g3, G.g4, by rw [G.g5]; exact .own, G.na⟩ fun k ρ _ hk J => by
    obtain ⟨f, rfl, G⟩ := J
    obtain ⟨f', e, G'⟩ := b_turn (k := k) C hP hU hk G
    exact ⟨LL f', .next, e, .inl rfl, f', rfl, G'⟩
  show ∃ ρ', ex cf s_law (LL f0) = _
  unfold aB at l4
  unfold bB at l5
  unfold s_law
  exact ⟨ρ', R_seq (zaj (ρ' := LL f1) (E_of e1 rfl) rfl) (zal (R_seq (za3 (ρ' := LL (upd f1 4 (.own []))) (zjs n1) (l := []) rfl rfl) (zal (R_seq (za3 (ρ' := LL f3) (zjs n2) (l := []) rfl rfl) (zal
    (R_seq (R_for (I_of (zem (zaw rfl rfl) (zc3 (n := 4) (by decide)))) l4) (zal (R_seq (R_for (I_of (zem (zaw rfl rfl) (zc3 (n := 4) (by decide)))) l5) (zal (R_seq (R_ret rfl) zaC))))))))))⟩
end Mine
end P10zx
open PySem PySem.Calls PyProof.Rows PySem.Builtin.Str PySem.W PySem.W.X PySem.W.ZRun
namespace Mine
noncomputable abbrev fa10 : Nat → Addr := fun i => ([192, 199, 111, 132, 139, 0, 153, 146, 0, 160, 167, 175, 118, 0, 206, 211, 0, 218, 0, 0, 0, 0, 0, 0, 0, 0, 0, 0, 0, 0, 0, 0, 0, 0, 223, 228] : List Addr).getD i 0
theorem zgM {β : Type} {x : Nat} {b : β} : ∀ {l : List (Nat × β)}, l.lookup x = some b → (x, b) ∈ l
  | [], e => by cases e
  | (y, c) :: r, e => by
    rw [List.lookup_cons] at e
    cases hx : x == y with
    | true =>
      rw [hx] at e
      cases e
      rw [beq_iff_eq.mp hx]
      exact List.mem_cons_self
    | false =>
      rw [hx] at e
      exact List.mem_cons_of_mem _ (zgM e)
noncomputable def rho10 (ns : List Int) : List Slot := [.val (.list (ns.map .int))] ++ List.replicate 37 .unset
theorem zgf : fn_law_dressed.body = s_law_dressed := by delta fn_law_dressed; exact Eq.refl _
theorem zjk (ns : List Int) : PlainRho (rho10 ns) := by
  intro j
  match j with
  | 0 => exact .inr ⟨ns, rfl⟩
  | j + 1 =>
    left
    unfold slotAt rho10
    rw [List.getD_eq_getElem?_getD, List.singleton_append, List.getElem?_cons_succ, List.getElem?_replicate]
    split <;> rfl
theorem zkH (ns : List Int) : ∃ ρ', ex (callF fns10 40) s_law ((rho10 ns).set 1 (.val (.tok 0))) = some (ρ', .ret (.bool true)) :=
  zkI ns
end Mine
set_option maxHeartbeats 0 in
theorem PySem.Challenge.cw_dn0069_10_holds : PySem.Challenge.rw_dn0069_10.Holds := by
  w_on; refine holds_law Mine.said10 fun said => ?_
  refine holds_openX (q := Mine.view10) (loose := [PySem.Str.ofString "relpath", PySem.Str.ofString "_twin_re_1", PySem.Str.ofString "_special_chars_map"]) (Xt := fun s => xlAt Mine.view10 [] s && recOk (RowW.records PySem.Challenge.rw_dn0069_10.row.toRowW) s) (XP := XL Mine.view10 []) (Yf := obsZ Mine.zas) (Ya := valZ Mine.zk 229 746) (N := 5254) ?hl (fun s e => xl_of s (Bool.and_eq_true_iff.mp e).1) XL.keeps (by rfl) (by rfl) (by rfl) (fun s e => recFacts_of (Bool.and_eq_true_iff.mp e).2) (by rfl) (by first | assumption | decide +kernel) (by decide +kernel) ⟨rfl, rfl, rfl, rfl, rfl, by decide +kernel⟩ ?hw ?hc
  case hl => exact Mine.hleft
  case hw => w_witness2
  k_fill
  intro w s₀ s₁ mg mb G y fa o pm cd doc dV kV ho hd hcd hD hmg hg args vals as hL0 hpre hlay hrd hwl hlo
  have Zf := z_facts Mine.zkeys y
  have KX := InK.keeps w s₀.heap s₁.heap Zf.2.1 hL0.keeps
  have ZN := Zf.2.2.1
  refine Ground.open G ?_
  intro T0 B D TE TW
  wrow_args hpre hlay hrd hwl hlo
  obtain ⟨hat, hsz⟩ := script_at hL0
  rw [ZN] at hat hsz
  subst hat
  have hfa := Value.ref.inj (Option.some.inj (hmg.symm.trans (mg_of (v := .ref 228) KX T0.g rfl)))
  subst hfa
  refine enter_call ?_
  have hT : TabsAt [(198, 194)] s₁.heap := List.forall_mem_cons.mpr ⟨⟨codeHd_of_K KX (by kernel_rfl), KX 194 _ rfl⟩, fun _ h => nomatch h⟩
  have X := Mine.ziQ (c := 198) (P := 194) KX
  rename IntsAre _ _ => hI
  rename Heap.IsList _ _ _ => hIL
  rename List Int => ns
  have hlen := hI.length
  have hobj := script_obj hL0 hIL
  have hcx : ∀ T, Mine.Inj T → Mine.CxOk (Mine.mkCx PySem.Challenge.rw_dn0069_10.row.prog w s₁.heap 198 194 Mine.qs10 mg mb Mine.fa10 T) := fun T1 h1 => Mine.cxOk_of hT X T0 (by decide +kernel) rfl (by rfl) h1
  have hN : ∀ T, Mine.GN (Mine.mkCx PySem.Challenge.rw_dn0069_10.row.prog w s₁.heap 198 194 Mine.qs10 mg mb Mine.fa10 T) Mine.fs10 Mine.bs10 := fun T => Mine.gn_of (List.forall_mem_cons.mpr ⟨mg_of KX T0.g rfl, List.forall_mem_cons.mpr ⟨mg_of KX T0.g rfl, List.forall_mem_cons.mpr ⟨mg_of KX T0.g rfl, List.forall_mem_cons.mpr ⟨mg_of KX T0.g rfl, List.forall_mem_cons.mpr ⟨mg_of KX T0.g rfl, List.forall_mem_cons.mpr ⟨mg_of KX T0.g rfl, List.forall_mem_cons.mpr ⟨mg_of KX T0.g rfl, List.forall_mem_cons.mpr ⟨mg_of KX T0.g rfl, List.forall_mem_cons.mpr ⟨mg_of KX T0.g rfl, List.forall_mem_cons.mpr ⟨mg_of KX T0.g rfl, List.forall_mem_cons.mpr ⟨mg_of KX T0.g rfl, List.forall_mem_cons.mpr ⟨mg_of KX T0.g rfl, List.forall_mem_cons.mpr ⟨mg_of KX T0.g rfl, List.forall_mem_cons.mpr ⟨mg_of KX T0.g rfl, List.forall_mem_cons.mpr ⟨mg_of KX T0.g rfl, List.forall_mem_cons.mpr ⟨mg_of KX T0.g rfl, fun _ h => nomatch h⟩⟩⟩⟩⟩⟩⟩⟩⟩⟩⟩⟩⟩⟩⟩⟩) (List.forall_mem_cons.mpr ⟨mg_none_of KX T0.g rfl, List.forall_mem_cons.mpr ⟨mg_none_of KX T0.g rfl, List.forall_mem_cons.mpr ⟨mg_none_of KX T0.g rfl, List.forall_mem_cons.mpr ⟨mg_none_of KX T0.g rfl, List.forall_mem_cons.mpr ⟨mg_none_of KX T0.g rfl, List.forall_mem_cons.mpr ⟨mg_none_of KX T0.g rfl, List.forall_mem_cons.mpr ⟨mg_none_of KX T0.g rfl, List.forall_mem_cons.mpr ⟨mg_none_of KX T0.g rfl, List.forall_mem_cons.mpr ⟨mg_none_of KX T0.g rfl, List.forall_mem_cons.mpr ⟨mg_none_of KX T0.g rfl, List.forall_mem_cons.mpr ⟨mg_none_of KX T0.g rfl, List.forall_mem_cons.mpr ⟨mg_none_of KX T0.g rfl, List.forall_mem_cons.mpr ⟨mg_none_of KX T0.g rfl, List.forall_mem_cons.mpr ⟨mg_none_of KX T0.g rfl, List.forall_mem_cons.mpr ⟨mg_none_of KX T0.g rfl, List.forall_mem_cons.mpr ⟨mg_none_of KX T0.g rfl, fun _ h => nomatch h⟩⟩⟩⟩⟩⟩⟩⟩⟩⟩⟩⟩⟩⟩⟩⟩)
  have hsp : mg (PySem.Str.ofString "_special_chars_map") = some (.ref 182) := mg_of KX T0.g rfl
  have htw : mg (PySem.Str.ofString "_twin_re_1") = some (.ref 180) := mg_of KX T0.g rfl
  have hTG : ∀ T, ∃ TG : Mine.TabG (Mine.mkCx PySem.Challenge.rw_dn0069_10.row.prog w s₁.heap 198 194 Mine.qs10 mg mb Mine.fa10 T), TG.d = 182 := fun T => Mine.tabG_of X (Nat.ne_of_beq_eq_false rfl) rfl rfl (by decide +kernel) (by decide +kernel)
  have hPG : ∀ T, ∃ PG : Mine.PatG (Mine.mkCx PySem.Challenge.rw_dn0069_10.row.prog w s₁.heap 198 194 Mine.qs10 mg mb Mine.fa10 T), PG.P = 180 := fun T => ⟨{ P := 180, C := 179, codes := _, nP := Nat.ne_of_beq_eq_false rfl, nC := Nat.ne_of_beq_eq_false rfl, at0 := ⟨⟨_, _, _, _, _, 0, X 180 _ rfl, rfl⟩, ⟨_, X 179 _ rfl⟩, by decide +kernel⟩ }, rfl⟩
  have hfn : ∀ T, ∀ i fn, Mine.fns10 i = some fn → ∃ ε fd body ps, Mine.FnIs (Mine.mkCx PySem.Challenge.rw_dn0069_10.row.prog w s₁.heap 198 194 Mine.qs10 mg mb Mine.fa10 T) ε i fn fd body ps ∧ Mine.SoundSs (Mine.mkCx PySem.Challenge.rw_dn0069_10.row.prog w s₁.heap 198 194 Mine.qs10 mg mb Mine.fa10 T) ε body fn.body := by
    intro T
    obtain ⟨TG, hTGd⟩ := hTG T
    obtain ⟨PG, hPGP⟩ := hPG T
    have hdr : Mine.SoundSs (Mine.mkCx PySem.Challenge.rw_dn0069_10.row.prog w s₁.heap 198 194 Mine.qs10 mg mb Mine.fa10 T) Mine.sc_law_dressed (Mine.nthBody PySem.Challenge.pw_dn0069_10 31) Mine.fn_law_dressed.body := by
      rw [Mine.zgf]; exact @Mine.zgH _ (hN T)
    have it10 : ∃ ε fd body ps, Mine.FnIs (Mine.mkCx PySem.Challenge.rw_dn0069_10.row.prog w s₁.heap 198 194 Mine.qs10 mg mb Mine.fa10 T) ε 17 Mine.fn_law_dressed fd body ps ∧ Mine.SoundSs (Mine.mkCx PySem.Challenge.rw_dn0069_10.row.prog w s₁.heap 198 194 Mine.qs10 mg mb Mine.fa10 T) ε body Mine.fn_law_dressed.body := by
      refine ⟨_, _, _, _, Mine.FnIs.ofK (cx := (Mine.mkCx PySem.Challenge.rw_dn0069_10.row.prog w s₁.heap 198 194 Mine.qs10 mg mb Mine.fa10 T)) (ε := Mine.sc_law_dressed) (i := 17) (a := 218) (fn := Mine.fn_law_dressed) (body := (Mine.nthBody PySem.Challenge.pw_dn0069_10 31)) (ps := [PySem.Str.ofString "code"]) X rfl (Nat.ne_of_beq_eq_false rfl) rfl (by rfl) (Nat.ne_of_beq_eq_false rfl) (fun c q e => nomatch e) (Mine.zaM rfl (Mine.len1 fun _ => rfl)) rfl rfl rfl rfl rfl, ?_⟩
      with_reducible exact hdr
    have all : ∀ p ∈ ([(0, Mine.fn_escape), (1, Mine.fn_translate10), (2, Mine.fn_fspath), (3, Mine.fn_get_sep), (4, Mine.fn_join), (6, Mine.fn_dirname), (7, Mine.fn_splitroot), (9, Mine.fn_normpath10), (10, Mine.fn_abspath), (11, Mine.fn_relpath), (12, Mine.fn_commonprefix), (14, Mine.fn_law_one), (15, Mine.fn_law_takes), (17, Mine.fn_law_dressed), (34, Mine.fn_law_meant)] : List (Nat × Mine.Fn)), ∃ ε fd body ps, Mine.FnIs (Mine.mkCx PySem.Challenge.rw_dn0069_10.row.prog w s₁.heap 198 194 Mine.qs10 mg mb Mine.fa10 T) ε p.1 p.2 fd body ps ∧ Mine.SoundSs (Mine.mkCx PySem.Challenge.rw_dn0069_10.row.prog w s₁.heap 198 194 Mine.qs10 mg mb Mine.fa10 T) ε body p.2.body :=
      List.forall_mem_cons.mpr ⟨⟨_, _, _, _, Mine.FnIs.ofK (cx := (Mine.mkCx PySem.Challenge.rw_dn0069_10.row.prog w s₁.heap 198 194 Mine.qs10 mg mb Mine.fa10 T)) (ε := Mine.sc_escape) (i := 0) (a := 192) (fn := Mine.fn_escape) (body := (Mine.nthBody PySem.Challenge.pw_dn0069_10 25)) (ps := [PySem.Str.ofString "pattern"]) X rfl (Nat.ne_of_beq_eq_false rfl) rfl (by rfl) (Nat.ne_of_beq_eq_false rfl) (fun c q e => nomatch e) (Mine.zaM rfl (Mine.len1 fun _ => rfl)) rfl rfl rfl rfl rfl, Mine.zky (hN T) TG (hTGd ▸ hsp)⟩,
      List.forall_mem_cons.mpr ⟨⟨_, _, _, _, Mine.FnIs.ofK (cx := (Mine.mkCx PySem.Challenge.rw_dn0069_10.row.prog w s₁.heap 198 194 Mine.qs10 mg mb Mine.fa10 T)) (ε := Mine.sc_translate10 198) (i := 1) (a := 199) (fn := Mine.fn_translate10) (body := (Mine.nthBody PySem.Challenge.pw_dn0069_10 27)) (ps := [PySem.Str.ofString "pat", PySem.Str.ofString "STAR", PySem.Str.ofString "QUESTION_MARK"]) X rfl (Nat.ne_of_beq_eq_false rfl) rfl (by rfl) (Nat.ne_of_beq_eq_false rfl) (fun c q e => by cases e; exact ⟨rfl, rfl⟩) (Mine.zaM rfl (Mine.len3 fun _ _ _ => rfl)) rfl rfl rfl rfl rfl, Mine.zgG (hN T) (Mine.lamG_of hT T0 (List.pairwise_singleton _ _)) PG (hPGP ▸ htw) rfl⟩,
      List.forall_mem_cons.mpr ⟨⟨_, _, _, _, Mine.FnIs.ofK (cx := (Mine.mkCx PySem.Challenge.rw_dn0069_10.row.prog w s₁.heap 198 194 Mine.qs10 mg mb Mine.fa10 T)) (ε := Mine.sc_fspath) (i := 2) (a := 111) (fn := Mine.fn_fspath) (body := (Mine.nthBody PySem.Challenge.pw_dn0069_10 10)) (ps := [PySem.Str.ofString "path"]) X rfl (Nat.ne_of_beq_eq_false rfl) rfl (by rfl) (Nat.ne_of_beq_eq_false rfl) (fun c q e => nomatch e) (Mine.zaM rfl (Mine.len1 fun _ => rfl)) rfl rfl rfl rfl rfl, Mine.zkx (hN T)⟩,
      List.forall_mem_cons.mpr ⟨⟨_, _, _, _, Mine.FnIs.ofK (cx := (Mine.mkCx PySem.Challenge.rw_dn0069_10.row.prog w s₁.heap 198 194 Mine.qs10 mg mb Mine.fa10 T)) (ε := Mine.sc_get_sep) (i := 3) (a := 132) (fn := Mine.fn_get_sep) (body := (Mine.nthBody PySem.Challenge.pw_dn0069_10 15)) (ps := [PySem.Str.ofString "path"]) X rfl (Nat.ne_of_beq_eq_false rfl) rfl (by rfl) (Nat.ne_of_beq_eq_false rfl) (fun c q e => nomatch e) (Mine.zaM rfl (Mine.len1 fun _ => rfl)) rfl rfl rfl rfl rfl, Mine.zjf (hN T)⟩,
      List.forall_mem_cons.mpr ⟨⟨_, _, _, _, Mine.FnIs.ofK (cx := (Mine.mkCx PySem.Challenge.rw_dn0069_10.row.prog w s₁.heap 198 194 Mine.qs10 mg mb Mine.fa10 T)) (ε := Mine.sc_join) (i := 4) (a := 139) (fn := Mine.fn_join) (body := (Mine.nthBody PySem.Challenge.pw_dn0069_10 16)) (ps := [PySem.Str.ofString "a", PySem.Str.ofString "p"]) X rfl (Nat.ne_of_beq_eq_false rfl) rfl (by rfl) (Nat.ne_of_beq_eq_false rfl) (fun c q e => nomatch e) (Mine.zml rfl rfl fun v r => by cases r <;> kernel_rfl) rfl rfl rfl rfl rfl, Mine.zmx (hN T)⟩,
      List.forall_mem_cons.mpr ⟨⟨_, _, _, _, Mine.FnIs.ofK (cx := (Mine.mkCx PySem.Challenge.rw_dn0069_10.row.prog w s₁.heap 198 194 Mine.qs10 mg mb Mine.fa10 T)) (ε := Mine.sc_dirname) (i := 6) (a := 153) (fn := Mine.fn_dirname) (body := (Mine.nthBody PySem.Challenge.pw_dn0069_10 18)) (ps := [PySem.Str.ofString "p"]) X rfl (Nat.ne_of_beq_eq_false rfl) rfl (by rfl) (Nat.ne_of_beq_eq_false rfl) (fun c q e => nomatch e) (Mine.zaM rfl (Mine.len1 fun _ => rfl)) rfl rfl rfl rfl rfl, Mine.zjg (hN T)⟩,
      List.forall_mem_cons.mpr ⟨⟨_, _, _, _, Mine.FnIs.ofK (cx := (Mine.mkCx PySem.Challenge.rw_dn0069_10.row.prog w s₁.heap 198 194 Mine.qs10 mg mb Mine.fa10 T)) (ε := Mine.sc_splitroot) (i := 7) (a := 146) (fn := Mine.fn_splitroot) (body := (Mine.nthBody PySem.Challenge.pw_dn0069_10 17)) (ps := [PySem.Str.ofString "p"]) X rfl (Nat.ne_of_beq_eq_false rfl) rfl (by rfl) (Nat.ne_of_beq_eq_false rfl) (fun c q e => nomatch e) (Mine.zaM rfl (Mine.len1 fun _ => rfl)) rfl rfl rfl rfl rfl, Mine.zhW (hN T)⟩,
      List.forall_mem_cons.mpr ⟨⟨_, _, _, _, Mine.FnIs.ofK (cx := (Mine.mkCx PySem.Challenge.rw_dn0069_10.row.prog w s₁.heap 198 194 Mine.qs10 mg mb Mine.fa10 T)) (ε := Mine.sc_normpath10) (i := 9) (a := 160) (fn := Mine.fn_normpath10) (body := (Mine.nthBody PySem.Challenge.pw_dn0069_10 19)) (ps := [PySem.Str.ofString "path"]) X rfl (Nat.ne_of_beq_eq_false rfl) rfl (by rfl) (Nat.ne_of_beq_eq_false rfl) (fun c q e => nomatch e) (Mine.zaM rfl (Mine.len1 fun _ => rfl)) rfl rfl rfl rfl rfl, Mine.zhc (hN T)⟩,
      List.forall_mem_cons.mpr ⟨⟨_, _, _, _, Mine.FnIs.ofK (cx := (Mine.mkCx PySem.Challenge.rw_dn0069_10.row.prog w s₁.heap 198 194 Mine.qs10 mg mb Mine.fa10 T)) (ε := Mine.sc_abspath) (i := 10) (a := 167) (fn := Mine.fn_abspath) (body := (Mine.nthBody PySem.Challenge.pw_dn0069_10 20)) (ps := [PySem.Str.ofString "path"]) X rfl (Nat.ne_of_beq_eq_false rfl) rfl (by rfl) (Nat.ne_of_beq_eq_false rfl) (fun c q e => nomatch e) (Mine.zaM rfl (Mine.len1 fun _ => rfl)) rfl rfl rfl rfl rfl, Mine.zjh (hN T)⟩,
      List.forall_mem_cons.mpr ⟨⟨_, _, _, _, Mine.FnIs.ofK (cx := (Mine.mkCx PySem.Challenge.rw_dn0069_10.row.prog w s₁.heap 198 194 Mine.qs10 mg mb Mine.fa10 T)) (ε := Mine.sc_relpath) (i := 11) (a := 175) (fn := Mine.fn_relpath) (body := (Mine.nthBody PySem.Challenge.pw_dn0069_10 21)) (ps := [PySem.Str.ofString "path", PySem.Str.ofString "start"]) X rfl (Nat.ne_of_beq_eq_false rfl) rfl (by rfl) (Nat.ne_of_beq_eq_false rfl) (fun c q e => nomatch e) (Mine.zjL X (Nat.ne_of_beq_eq_false rfl) rfl rfl rfl (Mine.len2 fun _ _ => ⟨_, rfl, rfl⟩)) rfl rfl rfl rfl rfl, Mine.zjd (hN T)⟩,
      List.forall_mem_cons.mpr ⟨⟨_, _, _, _, Mine.FnIs.ofK (cx := (Mine.mkCx PySem.Challenge.rw_dn0069_10.row.prog w s₁.heap 198 194 Mine.qs10 mg mb Mine.fa10 T)) (ε := Mine.sc_commonprefix) (i := 12) (a := 118) (fn := Mine.fn_commonprefix) (body := (Mine.nthBody PySem.Challenge.pw_dn0069_10 12)) (ps := [PySem.Str.ofString "m"]) X rfl (Nat.ne_of_beq_eq_false rfl) rfl (by rfl) (Nat.ne_of_beq_eq_false rfl) (fun c q e => nomatch e) (Mine.zaM rfl (Mine.len1 fun _ => rfl)) rfl rfl rfl rfl rfl, Mine.zfZ (hN T)⟩,
      List.forall_mem_cons.mpr ⟨⟨_, _, _, _, Mine.FnIs.ofK (cx := (Mine.mkCx PySem.Challenge.rw_dn0069_10.row.prog w s₁.heap 198 194 Mine.qs10 mg mb Mine.fa10 T)) (ε := Mine.sc_law_one) (i := 14) (a := 206) (fn := Mine.fn_law_one) (body := (Mine.nthBody PySem.Challenge.pw_dn0069_10 29)) (ps := [PySem.Str.ofString "part", PySem.Str.ofString "sign"]) X rfl (Nat.ne_of_beq_eq_false rfl) rfl (by rfl) (Nat.ne_of_beq_eq_false rfl) (fun c q e => nomatch e) (Mine.zaM rfl (Mine.len2 fun _ _ => rfl)) rfl rfl rfl rfl rfl, Mine.zje (hN T)⟩,
      List.forall_mem_cons.mpr ⟨⟨_, _, _, _, Mine.FnIs.ofK (cx := (Mine.mkCx PySem.Challenge.rw_dn0069_10.row.prog w s₁.heap 198 194 Mine.qs10 mg mb Mine.fa10 T)) (ε := Mine.sc_law_takes) (i := 15) (a := 211) (fn := Mine.fn_law_takes) (body := (Mine.nthBody PySem.Challenge.pw_dn0069_10 30)) (ps := [PySem.Str.ofString "parts", PySem.Str.ofString "star", PySem.Str.ofString "name"]) X rfl (Nat.ne_of_beq_eq_false rfl) rfl (by rfl) (Nat.ne_of_beq_eq_false rfl) (fun c q e => nomatch e) (Mine.zaM rfl (Mine.len3 fun _ _ _ => rfl)) rfl rfl rfl rfl rfl, Mine.zhX (hN T)⟩,
      List.forall_mem_cons.mpr ⟨by with_reducible exact it10,
      List.forall_mem_cons.mpr ⟨⟨_, _, _, _, Mine.FnIs.ofK (cx := (Mine.mkCx PySem.Challenge.rw_dn0069_10.row.prog w s₁.heap 198 194 Mine.qs10 mg mb Mine.fa10 T)) (ε := Mine.sc_law_meant) (i := 34) (a := 223) (fn := Mine.fn_law_meant) (body := (Mine.nthBody PySem.Challenge.pw_dn0069_10 32)) (ps := [PySem.Str.ofString "items", PySem.Str.ofString "name"]) X rfl (Nat.ne_of_beq_eq_false rfl) rfl (by rfl) (Nat.ne_of_beq_eq_false rfl) (fun c q e => nomatch e) (Mine.zaM rfl (Mine.len2 fun _ _ => rfl)) rfl rfl rfl rfl rfl, Mine.zhY (hN T)⟩,
      fun _ h => nomatch h⟩⟩⟩⟩⟩⟩⟩⟩⟩⟩⟩⟩⟩⟩⟩
    exact fun i fn h => all (i, fn) (Mine.zgM h)
  obtain ⟨ρ', he⟩ := Mine.zkH ns
  have hX : ∀ T, Mine.FnIs (Mine.mkCx PySem.Challenge.rw_dn0069_10.row.prog w s₁.heap 198 194 Mine.qs10 mg mb Mine.fa10 T) Mine.sc_law 35 Mine.fn_law _ (Mine.nthBody PySem.Challenge.pw_dn0069_10 33) [PySem.Str.ofString "script"] := fun T => Mine.FnIs.ofK (cx := (Mine.mkCx PySem.Challenge.rw_dn0069_10.row.prog w s₁.heap 198 194 Mine.qs10 mg mb Mine.fa10 T)) (ε := Mine.sc_law) (i := 35) (a := 228) (fn := Mine.fn_law) (body := (Mine.nthBody PySem.Challenge.pw_dn0069_10 33)) (ps := [PySem.Str.ofString "script"]) X rfl (Nat.ne_of_beq_eq_false rfl) rfl (by rfl) (Nat.ne_of_beq_eq_false rfl) (fun c q e => nomatch e) (Mine.zaM rfl (Mine.len1 fun _ => rfl)) rfl rfl rfl rfl rfl
  refine Mine.zmN (cx := (Mine.mkCx PySem.Challenge.rw_dn0069_10.row.prog w s₁.heap 198 194 Mine.qs10 mg mb Mine.fa10 fun k => k)) (i := 35) (i1 := 1) (n := 40) hcx hX (fun T hi => Mine.zik (hcx T hi) (hfn T) 40) (fun T => Mine.zbD (x := PySem.Str.ofString "star") rfl (by decide) (Mine.zak (.cons (Mine.zac rfl) rfl .nil)) (fun _ _ _ => rfl)) (fun T hi => Mine.snd_law (hN T)) (ns := ns) (ρ := Mine.rho10 ns) rfl (Mine.zjk ns) rfl (Nat.le_of_ble_eq_true rfl) he (s := s₁) (F := fun a => ∃ o, (ghostOf s₁.heap [(198, 194)]).get? a = some o) ⟨rfl, by decide, by decide, ⟨_, rfl⟩⟩ (Mine.wd_of hT rfl hg) ?_ (fun T F' s' wd os => Mine.zlY hT (fun _ => rfl) (by wrow_post) wd os)
  exact .list ⟨_, ghost_ne hobj (by simp)⟩ hobj (by rw [hlen]; unfold Mine.lim; omega) (Mine.zka hI)
