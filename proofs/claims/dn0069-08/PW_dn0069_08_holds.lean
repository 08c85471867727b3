import PyProof.Rows.All
import Wide.All
import OpenK.AllK
import Wide.FinOn
import Lean
import PySem.Challenge.RW_dn0069_08
set_option Elab.async false
set_option maxRecDepth 100000
set_option linter.all false
set_option genSizeOf false
set_option bootstrap.genMatcherCode false
section H08x
open PySem PySem.Calls PySem.W PyProof.Rows PySem.Builtin.Str
open PySem.W.X PySem.W.ZRun
set_option maxHeartbeats 0
namespace Mine
variable (P : Params)
noncomputable def hGo : List Nat → Option Stmt → Option Stmt
  | [], s => s
  | j :: r, some (.ClassDef _ _ _ b _ _ _ _ _ _ _) => hGo r b[j]?
  | j :: r, some (.FunctionDef _ _ b _ _ _ _ _ _ _) => hGo r b[j]?
  | _, _ => none
noncomputable def hAt (p : Program) (l : List Nat) : Option Stmt := match l with
  | [] => none
  | i :: r => hGo r p.main.body[i]?
noncomputable def hPs (s : Option Stmt) : Arguments := match s with
  | some (.FunctionDef _ a _ _ _ _ _ _ _ _) => a
  | _ => default
noncomputable def hBd (s : Option Stmt) : List Stmt := match s with
  | some (.FunctionDef _ _ b _ _ _ _ _ _ _) => b
  | _ => []
noncomputable def hSc (s : Option Stmt) : Scope := match s with
  | some (.FunctionDef _ _ _ _ _ _ s _ _ _) => s
  | _ => default
noncomputable abbrev hs (x : String) : PySem.Str := PySem.Str.ofString x
noncomputable abbrev hk (P : Params) (x : String) (t : Nat) (v : PySem.Value) : DictEntry := ⟨PyData.keyHash P (hs x), .str (hs x) t, v⟩
noncomputable abbrev hW : Program := PySem.Challenge.pw_dn0069_08
noncomputable def view08 : Program := PySem.W.view PySem.Challenge.pw_dn0069_08 [0, 1, 3, 5, 7, 8, 10, 12, 13, 15, 16, 17, 18, 19, 20, 22, 23, 25, 26, 28, 30, 31, 32, 33, 34, 35]
noncomputable def ho1 : Obj := ⟨.type "dict", none, .dict #[hk P "builtins" 162 (.ref 4), hk P "__main__" 163 (.ref 5), hk P "_sre" 244 (.ref 12)] 3, #[]⟩
noncomputable def ho2 : Obj := ⟨.none, none, .dict #[⟨PyData.keyHash P (⟨#[105, 109, 112, 111, 114, 116, 46, 108, 111, 97, 100, 101, 100, 46, 95, 115, 114, 101]⟩), .str (⟨#[105, 109, 112, 111, 114, 116, 46, 108, 111, 97, 100, 101, 100, 46, 95, 115, 114, 101]⟩) 183, .bool true⟩, hk P "class._frozen_importlib.BuiltinImporter" 185 (.ref 14), ⟨PyData.keyHash P (⟨#[119, 97, 116, 99, 104, 101, 100, 46, 105, 109, 112, 111, 114, 116]⟩), .str (⟨#[119, 97, 116, 99, 104, 101, 100, 46, 105, 109, 112, 111, 114, 116]⟩) 206, .ref 18⟩, hk P "class._frozen_importlib.ModuleSpec" 216 (.ref 22), hk P "sys.modules.booked-epoch" 245 (.int (3) 0), ⟨PyData.keyHash P (⟨#[105, 109, 112, 111, 114, 116, 46, 108, 97, 116, 101, 114, 45, 108, 97, 105, 100, 46, 95, 115, 114, 101]⟩), .str (⟨#[105, 109, 112, 111, 114, 116, 46, 108, 97, 116, 101, 114, 45, 108, 97, 105, 100, 46, 95, 115, 114, 101]⟩) 270, .bool true⟩, hk P "watched.library" 272 (.ref 27), ⟨PyData.keyHash P (hs "watched.library-objects"), .str (hs "watched.library-objects") 0, .str ((⟨#[12]⟩ : PySem.Str)) 0⟩, ⟨PyData.keyHash P (hs "watched.library-deep._sre"), .str (hs "watched.library-deep._sre") 273, .str ((⟨#[4, 0, 0, 11, 4, 0, 0, 11, 4, 0, 0, 3, 4, 0, 0, 11, 8, 4, 100, 105, 99, 116, 2]⟩ : PySem.Str)) 0⟩] 9, #[]⟩
noncomputable def ho3 : Obj := ⟨.type "dict", none, .dict #[hk P "__name__" 165 (.str (hs "__main__") 164), hk P "__doc__" 166 (.none), hk P "__package__" 167 (.none), hk P "__loader__" 168 (.builtin "__main__.__loader__#opaque"), hk P "__spec__" 169 (.none), hk P "__annotations__" 170 (.ref 6), hk P "__builtins__" 171 (.ref 4), hk P "__file__" 173 (.str (hs "/claim/cut.py") 172), hk P "__cached__" 174 (.none), hk P "_sre" 275 (.ref 12)] 10, #[]⟩
noncomputable def ho11 : Obj := ⟨.type "dict", none, .dict #[hk P "__name__" 247 (.str (hs "_sre") 246), hk P "__doc__" 248 (.none), hk P "__package__" 250 (.str (hs "") 249), hk P "__loader__" 251 (.builtin "off-the-table:_sre.__loader__:shared#opaque"), hk P "__spec__" 252 (.builtin "off-the-table:_sre.__spec__:shared#opaque"), hk P "compile" 253 (.builtin "_sre.compile"), hk P "template" 254 (.builtin "off-the-table:_sre.template:shared#opaque"), hk P "getcodesize" 255 (.builtin "off-the-table:_sre.getcodesize:shared#opaque"), hk P "ascii_iscased" 256 (.builtin "off-the-table:_sre.ascii_iscased:shared#opaque"), hk P "unicode_iscased" 257 (.builtin "off-the-table:_sre.unicode_iscased:shared#opaque"), hk P "ascii_tolower" 258 (.builtin "off-the-table:_sre.ascii_tolower:shared#opaque"), hk P "unicode_tolower" 259 (.builtin "off-the-table:_sre.unicode_tolower:shared#opaque"), hk P "MAGIC" 261 (.int (20230612) 260), hk P "CODESIZE" 263 (.int (4) 262), hk P "MAXREPEAT" 265 (.int (4294967295) 264), hk P "MAXGROUPS" 267 (.int (1073741823) 266), hk P "copyright" 269 (.str (hs " SRE 2.2.2 Copyright (c) 1997-2002 by Secret Labs AB ") 268)] 17, #[]⟩
noncomputable def ho12 (P : Params) : Obj := ⟨.type "module", (some 11), .plain, #[]⟩
noncomputable def ho13 : Obj := ⟨.type "dict", none, .dict #[hk P "__module__" 189 (.str (hs "_frozen_importlib") 186), hk P "__firstlineno__" 190 (.int (971) 187), hk P "__doc__" 191 (.builtin "_frozen_importlib.BuiltinImporter.__doc__:str#opaque"), hk P "_ORIGIN" 192 (.str (hs "built-in") 188), hk P "find_spec" 193 (.builtin "_frozen_importlib.BuiltinImporter.find_spec#opaque"), hk P "create_module" 194 (.builtin "_frozen_importlib.BuiltinImporter.create_module#opaque"), hk P "exec_module" 195 (.builtin "_frozen_importlib.BuiltinImporter.exec_module#opaque"), hk P "get_code" 196 (.builtin "_frozen_importlib.BuiltinImporter.get_code#opaque"), hk P "get_source" 197 (.builtin "_frozen_importlib.BuiltinImporter.get_source#opaque"), hk P "is_package" 198 (.builtin "_frozen_importlib.BuiltinImporter.is_package#opaque"), hk P "load_module" 199 (.builtin "_frozen_importlib.BuiltinImporter.load_module#opaque"), hk P "__static_attributes__" 200 (.ref 15), hk P "__dict__" 202 (.ref 16), hk P "__weakref__" 204 (.ref 17)] 14, #[]⟩
noncomputable def ho14 (P : Params) : Obj := ⟨.type "type", none, .cls ⟨hs "BuiltinImporter", [.type "object"], [.ref 14, .type "object"], 13, hs "BuiltinImporter", true, [], [], false, none, false⟩, #[]⟩
noncomputable def ho15 (P : Params) : Obj := ⟨.type "tuple", none, .seq #[] 0, #[]⟩
noncomputable def ho16 (P : Params) : Obj := ⟨.type "getset_descriptor", none, .fields #[.str (hs "__dict__") 201, .ref 14, .builtin "function.__dict__", .builtin "function.__dict__#set"], #[]⟩
noncomputable def ho17 (P : Params) : Obj := ⟨.type "getset_descriptor", none, .fields #[.str (hs "__weakref__") 203, .ref 14, .builtin "ExceptionGroup.__weakref__", .none], #[]⟩
noncomputable def ho18 (P : Params) : Obj := ⟨.none, none, .seq #[.int (13) 0, .str ((⟨#[6, 189, 10, 95, 95, 109, 111, 100, 117, 108, 101, 95, 95, 6, 186, 17, 95, 102, 114, 111, 122, 101, 110, 95, 105, 109, 112, 111, 114, 116, 108, 105, 98, 6, 190, 15, 95, 95, 102, 105, 114, 115, 116, 108, 105, 110, 101, 110, 111, 95, 95, 4, 187, 0, 971, 6, 191, 7, 95, 95, 100, 111, 99, 95, 95, 9, 52, 95, 102, 114, 111, 122, 101, 110, 95, 105, 109, 112, 111, 114, 116, 108, 105, 98, 46, 66, 117, 105, 108, 116, 105, 110, 73, 109, 112, 111, 114, 116, 101, 114, 46, 95, 95, 100, 111, 99, 95, 95, 58, 115, 116, 114, 35, 111, 112, 97, 113, 117, 101, 6, 192, 7, 95, 79, 82, 73, 71, 73, 78, 6, 188, 8, 98, 117, 105, 108, 116, 45, 105, 110, 6, 193, 9, 102, 105, 110, 100, 95, 115, 112, 101, 99, 9, 50, 95, 102, 114, 111, 122, 101, 110, 95, 105, 109, 112, 111, 114, 116, 108, 105, 98, 46, 66, 117, 105, 108, 116, 105, 110, 73, 109, 112, 111, 114, 116, 101, 114, 46, 102, 105, 110, 100, 95, 115, 112, 101, 99, 35, 111, 112, 97, 113, 117, 101, 6, 194, 13, 99, 114, 101, 97, 116, 101, 95, 109, 111, 100, 117, 108, 101, 9, 54, 95, 102, 114, 111, 122, 101, 110, 95, 105, 109, 112, 111, 114, 116, 108, 105, 98, 46, 66, 117, 105, 108, 116, 105, 110, 73, 109, 112, 111, 114, 116, 101, 114, 46, 99, 114, 101, 97, 116, 101, 95, 109, 111, 100, 117, 108, 101, 35, 111, 112, 97, 113, 117, 101, 6, 195, 11, 101, 120, 101, 99, 95, 109, 111, 100, 117, 108, 101, 9, 52, 95, 102, 114, 111, 122, 101, 110, 95, 105, 109, 112, 111, 114, 116, 108, 105, 98, 46, 66, 117, 105, 108, 116, 105, 110, 73, 109, 112, 111, 114, 116, 101, 114, 46, 101, 120, 101, 99, 95, 109, 111, 100, 117, 108, 101, 35, 111, 112, 97, 113, 117, 101, 6, 196, 8, 103, 101, 116, 95, 99, 111, 100, 101, 9, 49, 95, 102, 114, 111, 122, 101, 110, 95, 105, 109, 112, 111, 114, 116, 108, 105, 98, 46, 66, 117, 105, 108, 116, 105, 110, 73, 109, 112, 111, 114, 116, 101, 114, 46, 103, 101, 116, 95, 99, 111, 100, 101, 35, 111, 112, 97, 113, 117, 101, 6, 197, 10, 103, 101, 116, 95, 115, 111, 117, 114, 99, 101, 9, 51, 95, 102, 114, 111, 122, 101, 110, 95, 105, 109, 112, 111, 114, 116, 108, 105, 98, 46, 66, 117, 105, 108, 116, 105, 110, 73, 109, 112, 111, 114, 116, 101, 114, 46, 103, 101, 116, 95, 115, 111, 117, 114, 99, 101, 35, 111, 112, 97, 113, 117, 101, 6, 198, 10, 105, 115, 95, 112, 97, 99, 107, 97, 103, 101, 9, 51, 95, 102, 114, 111, 122, 101, 110, 95, 105, 109, 112, 111, 114, 116, 108, 105, 98, 46, 66, 117, 105, 108, 116, 105, 110, 73, 109, 112, 111, 114, 116, 101, 114, 46, 105, 115, 95, 112, 97, 99, 107, 97, 103, 101, 35, 111, 112, 97, 113, 117, 101, 6, 199, 11, 108, 111, 97, 100, 95, 109, 111, 100, 117, 108, 101, 9, 52, 95, 102, 114, 111, 122, 101, 110, 95, 105, 109, 112, 111, 114, 116, 108, 105, 98, 46, 66, 117, 105, 108, 116, 105, 110, 73, 109, 112, 111, 114, 116, 101, 114, 46, 108, 111, 97, 100, 95, 109, 111, 100, 117, 108, 101, 35, 111, 112, 97, 113, 117, 101, 6, 200, 21, 95, 95, 115, 116, 97, 116, 105, 99, 95, 97, 116, 116, 114, 105, 98, 117, 116, 101, 115, 95, 95, 4, 0, 0, 15, 6, 202, 8, 95, 95, 100, 105, 99, 116, 95, 95, 4, 0, 0, 16, 6, 204, 11, 95, 95, 119, 101, 97, 107, 114, 101, 102, 95, 95, 4, 0, 0, 17]⟩ : PySem.Str)) 0, .bool true, .bool true, .str (hs "") 205, .int (21) 0, .str ((⟨#[6, 227, 10, 95, 95, 109, 111, 100, 117, 108, 101, 95, 95, 6, 217, 17, 95, 102, 114, 111, 122, 101, 110, 95, 105, 109, 112, 111, 114, 116, 108, 105, 98, 6, 228, 15, 95, 95, 102, 105, 114, 115, 116, 108, 105, 110, 101, 110, 111, 95, 95, 4, 218, 0, 562, 6, 229, 7, 95, 95, 100, 111, 99, 95, 95, 9, 47, 95, 102, 114, 111, 122, 101, 110, 95, 105, 109, 112, 111, 114, 116, 108, 105, 98, 46, 77, 111, 100, 117, 108, 101, 83, 112, 101, 99, 46, 95, 95, 100, 111, 99, 95, 95, 58, 115, 116, 114, 35, 111, 112, 97, 113, 117, 101, 6, 230, 8, 95, 95, 105, 110, 105, 116, 95, 95, 9, 44, 95, 102, 114, 111, 122, 101, 110, 95, 105, 109, 112, 111, 114, 116, 108, 105, 98, 46, 77, 111, 100, 117, 108, 101, 83, 112, 101, 99, 46, 95, 95, 105, 110, 105, 116, 95, 95, 35, 111, 112, 97, 113, 117, 101, 6, 231, 8, 95, 95, 114, 101, 112, 114, 95, 95, 9, 44, 95, 102, 114, 111, 122, 101, 110, 95, 105, 109, 112, 111, 114, 116, 108, 105, 98, 46, 77, 111, 100, 117, 108, 101, 83, 112, 101, 99, 46, 95, 95, 114, 101, 112, 114, 95, 95, 35, 111, 112, 97, 113, 117, 101, 6, 232, 6, 95, 95, 101, 113, 95, 95, 9, 42, 95, 102, 114, 111, 122, 101, 110, 95, 105, 109, 112, 111, 114, 116, 108, 105, 98, 46, 77, 111, 100, 117, 108, 101, 83, 112, 101, 99, 46, 95, 95, 101, 113, 95, 95, 35, 111, 112, 97, 113, 117, 101, 6, 233, 6, 99, 97, 99, 104, 101, 100, 9, 42, 95, 102, 114, 111, 122, 101, 110, 95, 105, 109, 112, 111, 114, 116, 108, 105, 98, 46, 77, 111, 100, 117, 108, 101, 83, 112, 101, 99, 46, 99, 97, 99, 104, 101, 100, 35, 111, 112, 97, 113, 117, 101, 6, 234, 6, 112, 97, 114, 101, 110, 116, 9, 42, 95, 102, 114, 111, 122, 101, 110, 95, 105, 109, 112, 111, 114, 116, 108, 105, 98, 46, 77, 111, 100, 117, 108, 101, 83, 112, 101, 99, 46, 112, 97, 114, 101, 110, 116, 35, 111, 112, 97, 113, 117, 101, 6, 235, 12, 104, 97, 115, 95, 108, 111, 99, 97, 116, 105, 111, 110, 9, 48, 95, 102, 114, 111, 122, 101, 110, 95, 105, 109, 112, 111, 114, 116, 108, 105, 98, 46, 77, 111, 100, 117, 108, 101, 83, 112, 101, 99, 46, 104, 97, 115, 95, 108, 111, 99, 97, 116, 105, 111, 110, 35, 111, 112, 97, 113, 117, 101, 6, 236, 21, 95, 95, 115, 116, 97, 116, 105, 99, 95, 97, 116, 116, 114, 105, 98, 117, 116, 101, 115, 95, 95, 4, 0, 0, 23, 6, 238, 8, 95, 95, 100, 105, 99, 116, 95, 95, 4, 0, 0, 24, 6, 240, 11, 95, 95, 119, 101, 97, 107, 114, 101, 102, 95, 95, 4, 0, 0, 25, 6, 241, 8, 95, 95, 104, 97, 115, 104, 95, 95, 0]⟩ : PySem.Str)) 0, .bool true, .bool true, .str (hs "") 242] 1, #[]⟩
noncomputable def ho19 (P : Params) : Obj := ⟨.type "list", none, .seq #[] 0, #[]⟩
noncomputable def ho20 : Obj := ⟨.type "dict", none, .dict #[hk P "name" 208 (.str (hs "_sre") 207), hk P "loader" 209 (.ref 14), hk P "origin" 210 (.str (hs "built-in") 184), hk P "loader_state" 211 (.none), hk P "submodule_search_locations" 212 (.none), hk P "_uninitialized_submodules" 213 (.ref 19), hk P "_set_fileattr" 214 (.bool false), hk P "_cached" 215 (.none), hk P "_initializing" 243 (.bool false)] 9, #[]⟩
noncomputable def ho21 : Obj := ⟨.type "dict", none, .dict #[hk P "__module__" 227 (.str (hs "_frozen_importlib") 217), hk P "__firstlineno__" 228 (.int (562) 218), hk P "__doc__" 229 (.builtin "_frozen_importlib.ModuleSpec.__doc__:str#opaque"), hk P "__init__" 230 (.builtin "_frozen_importlib.ModuleSpec.__init__#opaque"), hk P "__repr__" 231 (.builtin "_frozen_importlib.ModuleSpec.__repr__#opaque"), hk P "__eq__" 232 (.builtin "_frozen_importlib.ModuleSpec.__eq__#opaque"), hk P "cached" 233 (.builtin "_frozen_importlib.ModuleSpec.cached#opaque"), hk P "parent" 234 (.builtin "_frozen_importlib.ModuleSpec.parent#opaque"), hk P "has_location" 235 (.builtin "_frozen_importlib.ModuleSpec.has_location#opaque"), hk P "__static_attributes__" 236 (.ref 23), hk P "__dict__" 238 (.ref 24), hk P "__weakref__" 240 (.ref 25), hk P "__hash__" 241 (.none)] 13, #[]⟩
noncomputable def ho22 (P : Params) : Obj := ⟨.type "type", none, .cls ⟨hs "ModuleSpec", [.type "object"], [.ref 22, .type "object"], 21, hs "ModuleSpec", true, [], [], false, none, false⟩, #[]⟩
noncomputable def ho23 (P : Params) : Obj := ⟨.type "tuple", none, .seq #[.str (hs "_cached") 219, .str (hs "_set_fileattr") 220, .str (hs "_uninitialized_submodules") 221, .str (hs "loader") 222, .str (hs "loader_state") 223, .str (hs "name") 224, .str (hs "origin") 225, .str (hs "submodule_search_locations") 226] 0, #[]⟩
noncomputable def ho24 (P : Params) : Obj := ⟨.type "getset_descriptor", none, .fields #[.str (hs "__dict__") 237, .ref 22, .builtin "function.__dict__", .builtin "function.__dict__#set"], #[]⟩
noncomputable def ho25 (P : Params) : Obj := ⟨.type "getset_descriptor", none, .fields #[.str (hs "__weakref__") 239, .ref 22, .builtin "ExceptionGroup.__weakref__", .none], #[]⟩
noncomputable def ho26 (P : Params) : Obj := ⟨.ref 22, (some 20), .plain, #[]⟩
noncomputable def ho27 (P : Params) : Obj := ⟨.none, none, .seq #[.int (11) 0, .str ((⟨#[6, 247, 8, 95, 95, 110, 97, 109, 101, 95, 95, 6, 246, 4, 95, 115, 114, 101, 6, 248, 7, 95, 95, 100, 111, 99, 95, 95, 0, 6, 250, 11, 95, 95, 112, 97, 99, 107, 97, 103, 101, 95, 95, 6, 249, 0, 6, 251, 10, 95, 95, 108, 111, 97, 100, 101, 114, 95, 95, 4, 0, 0, 14, 6, 252, 8, 95, 95, 115, 112, 101, 99, 95, 95, 4, 0, 0, 26, 6, 253, 7, 99, 111, 109, 112, 105, 108, 101, 9, 12, 95, 115, 114, 101, 46, 99, 111, 109, 112, 105, 108, 101, 6, 254, 8, 116, 101, 109, 112, 108, 97, 116, 101, 9, 13, 95, 115, 114, 101, 46, 116, 101, 109, 112, 108, 97, 116, 101, 6, 255, 11, 103, 101, 116, 99, 111, 100, 101, 115, 105, 122, 101, 9, 16, 95, 115, 114, 101, 46, 103, 101, 116, 99, 111, 100, 101, 115, 105, 122, 101, 6, 256, 13, 97, 115, 99, 105, 105, 95, 105, 115, 99, 97, 115, 101, 100, 9, 18, 95, 115, 114, 101, 46, 97, 115, 99, 105, 105, 95, 105, 115, 99, 97, 115, 101, 100, 6, 257, 15, 117, 110, 105, 99, 111, 100, 101, 95, 105, 115, 99, 97, 115, 101, 100, 9, 20, 95, 115, 114, 101, 46, 117, 110, 105, 99, 111, 100, 101, 95, 105, 115, 99, 97, 115, 101, 100, 6, 258, 13, 97, 115, 99, 105, 105, 95, 116, 111, 108, 111, 119, 101, 114, 9, 18, 95, 115, 114, 101, 46, 97, 115, 99, 105, 105, 95, 116, 111, 108, 111, 119, 101, 114, 6, 259, 15, 117, 110, 105, 99, 111, 100, 101, 95, 116, 111, 108, 111, 119, 101, 114, 9, 20, 95, 115, 114, 101, 46, 117, 110, 105, 99, 111, 100, 101, 95, 116, 111, 108, 111, 119, 101, 114, 6, 261, 5, 77, 65, 71, 73, 67, 4, 260, 0, 20230612, 6, 263, 8, 67, 79, 68, 69, 83, 73, 90, 69, 4, 262, 0, 4, 6, 265, 9, 77, 65, 88, 82, 69, 80, 69, 65, 84, 4, 264, 0, 4294967295, 6, 267, 9, 77, 65, 88, 71, 82, 79, 85, 80, 83, 4, 266, 0, 1073741823, 6, 269, 9, 99, 111, 112, 121, 114, 105, 103, 104, 116, 6, 268, 53, 32, 83, 82, 69, 32, 50, 46, 50, 46, 50, 32, 67, 111, 112, 121, 114, 105, 103, 104, 116, 32, 40, 99, 41, 32, 49, 57, 57, 55, 45, 50, 48, 48, 50, 32, 98, 121, 32, 83, 101, 99, 114, 101, 116, 32, 76, 97, 98, 115, 32, 65, 66, 32]⟩ : PySem.Str)) 0, .bool true, .bool false, .str (hs "_sre") 271] 0, #[]⟩
noncomputable def hp0 : Heap := ⟨Array.mk [boot_o_0 P, ho1 P, ho2 P, ho3 P, boot_o_4 P, boot_o_5 P, boot_o_6 P, boot_o_7 P, boot_o_8 P, boot_o_9 P, boot_o_10 P, ho11 P, ho12 P, ho13 P, ho14 P, ho15 P, ho16 P, ho17 P, ho18 P, ho19 P, ho20 P, ho21 P, ho22 P, ho23 P, ho24 P, ho25 P, ho26 P, ho27 P], { }⟩
noncomputable def ho28 (P : Params) : Obj := ⟨.type "tuple", none, .seq #[] 0, #[]⟩
noncomputable def ho29 (P : Params) : Obj := ⟨.none, none, .fields #[], #[]⟩
noncomputable def ho30 (P : Params) : Obj := ⟨.type "code", none, .fields #[.str (hs "<module>") 277, .str (hs "<module>") 278, .str (hs "/claim/cut.py") 279, .int (1) 0, .int (0) 0, .int (0) 0, .int (0) 0, .int (0) 0, .ref 28, .bool false, .int (276) 0, .ref 29, .none, .none, .none, .none, .int (280) 0, .int (1) 0, .str (hs "/claim/cut.py") 281], #[]⟩
noncomputable def ho31 (P : Params) : Obj := ⟨.type "frame", none, .plain, #[some (.ref 30), some (.ref 3), some (.ref 3), none, some (.str (hs "__main__") 164), none, some (.ref 0)]⟩
noncomputable def hp_pre : Heap := ⟨Array.mk [boot_o_0 P, ho1 P, ho2 P, ho3 P, boot_o_4 P, boot_o_5 P, boot_o_6 P, boot_o_7 P, boot_o_8 P, boot_o_9 P, boot_o_10 P, ho11 P, ho12 P, ho13 P, ho14 P, ho15 P, ho16 P, ho17 P, ho18 P, ho19 P, ho20 P, ho21 P, ho22 P, ho23 P, ho24 P, ho25 P, ho26 P, ho27 P, ho28 P, ho29 P, ho30 P, ho31 P], { }⟩
noncomputable def ho3x : Obj := ⟨.type "dict", none, .dict #[hk P "__name__" 165 (.str (hs "os") 289), hk P "__doc__" 166 (.none), hk P "__package__" 167 (.none), hk P "__loader__" 168 (.builtin "__main__.__loader__#opaque"), hk P "__spec__" 169 (.none), hk P "__annotations__" 170 (.ref 6), hk P "__builtins__" 171 (.ref 4), hk P "__file__" 173 (.str (hs "/claim/cut.py") 172), hk P "__cached__" 174 (.none), hk P "_sre" 275 (.ref 12), hk P "_wall" 288 (.ref 38), hk P "_plain_name" 299 (.ref 45)] 12, #[]⟩
noncomputable def ho29x (P : Params) : Obj := ⟨.none, none, .fields #[.int (2) 0, .int (0) 0, .ref 37, .int (6) 0, .int (0) 0, .ref 44], #[]⟩
noncomputable def ho32 (P : Params) : Obj := ⟨.type "tuple", none, .seq #[] 0, #[]⟩
noncomputable def ho33 (P : Params) : Obj := ⟨.none, none, .fields #[], #[]⟩
noncomputable def ho34 (P : Params) : Obj := ⟨.type "tuple", none, .seq #[.str (hs "k") 285] 0, #[]⟩
noncomputable def ho35 (P : Params) : Obj := ⟨.type "tuple", none, .seq #[] 0, #[]⟩
noncomputable def ho36 (P : Params) : Obj := ⟨.none, none, .func ⟨hs "_wall", hs "_wall", hPs (hAt hW [1]), .stmts (hBd (hAt hW [1])), hSc (hAt hW [1]), 0, [], .none, .none, .none, .none, none, .none, .none, 0⟩, #[]⟩
noncomputable def ho37 (P : Params) : Obj := ⟨.type "code", none, .fields #[.str (hs "_wall") 282, .str (hs "_wall") 283, .str (hs "/claim/cut.py") 284, .int (2) 0, .int (1) 0, .int (0) 0, .int (0) 0, .int (3) 0, .ref 32, .bool true, .int (276) 0, .ref 33, .none, .ref 34, .ref 35, .ref 36, .int (286) 0, .int (2) 0, .str (hs "/claim/cut.py") 287], #[]⟩
noncomputable def ho38 (P : Params) : Obj := ⟨.type "function", none, .func ⟨hs "_wall", hs "_wall", hPs (hAt hW [1]), .stmts (hBd (hAt hW [1])), hSc (hAt hW [1]), 3, [], .none, .none, .none, .str (hs "__main__") 164, none, .ref 37, .none, 0⟩, #[]⟩
noncomputable def ho39 (P : Params) : Obj := ⟨.type "tuple", none, .seq #[] 0, #[]⟩
noncomputable def ho40 (P : Params) : Obj := ⟨.none, none, .fields #[], #[]⟩
noncomputable def ho41 (P : Params) : Obj := ⟨.type "tuple", none, .seq #[.str (hs "x") 294, .str (hs "what") 295, .str (hs "kind") 296] 0, #[]⟩
noncomputable def ho42 (P : Params) : Obj := ⟨.type "tuple", none, .seq #[] 0, #[]⟩
noncomputable def ho43 (P : Params) : Obj := ⟨.none, none, .func ⟨hs "_plain_name", hs "_plain_name", hPs (hAt hW [3]), .stmts (hBd (hAt hW [3])), hSc (hAt hW [3]), 0, [], .none, .none, .none, .none, none, .none, .none, 0⟩, #[]⟩
noncomputable def ho44 (P : Params) : Obj := ⟨.type "code", none, .fields #[.str (hs "_plain_name") 291, .str (hs "_plain_name") 292, .str (hs "/claim/cut.py") 293, .int (6) 0, .int (2) 0, .int (0) 0, .int (0) 0, .int (3) 0, .ref 39, .bool true, .int (276) 0, .ref 40, .none, .ref 41, .ref 42, .ref 43, .int (297) 0, .int (6) 0, .str (hs "/claim/cut.py") 298], #[]⟩
noncomputable def ho45 (P : Params) : Obj := ⟨.type "function", none, .func ⟨hs "_plain_name", hs "_plain_name", hPs (hAt hW [3]), .stmts (hBd (hAt hW [3])), hSc (hAt hW [3]), 3, [], .none, .none, .none, .str (hs "os") 289, none, .ref 44, .none, 0⟩, #[]⟩
noncomputable def hp3 : Heap := ⟨Array.mk [boot_o_0 P, ho1 P, ho2 P, ho3x P, boot_o_4 P, boot_o_5 P, boot_o_6 P, boot_o_7 P, boot_o_8 P, boot_o_9 P, boot_o_10 P, ho11 P, ho12 P, ho13 P, ho14 P, ho15 P, ho16 P, ho17 P, ho18 P, ho19 P, ho20 P, ho21 P, ho22 P, ho23 P, ho24 P, ho25 P, ho26 P, ho27 P, ho28 P, ho29x P, ho30 P, ho31 P, ho32 P, ho33 P, ho34 P, ho35 P, ho36 P, ho37 P, ho38 P, ho39 P, ho40 P, ho41 P, ho42 P, ho43 P, ho44 P, ho45 P], { }⟩
noncomputable def ho3xx : Obj := ⟨.type "dict", none, .dict #[hk P "__name__" 165 (.str (hs "abc") 300), hk P "__doc__" 166 (.none), hk P "__package__" 167 (.none), hk P "__loader__" 168 (.builtin "__main__.__loader__#opaque"), hk P "__spec__" 169 (.none), hk P "__annotations__" 170 (.ref 6), hk P "__builtins__" 171 (.ref 4), hk P "__file__" 173 (.str (hs "/claim/cut.py") 172), hk P "__cached__" 174 (.none), hk P "_sre" 275 (.ref 12), hk P "_wall" 288 (.ref 38), hk P "_plain_name" 299 (.ref 45)] 12, #[]⟩
noncomputable def hp4 : Heap := ⟨Array.mk [boot_o_0 P, ho1 P, ho2 P, ho3xx P, boot_o_4 P, boot_o_5 P, boot_o_6 P, boot_o_7 P, boot_o_8 P, boot_o_9 P, boot_o_10 P, ho11 P, ho12 P, ho13 P, ho14 P, ho15 P, ho16 P, ho17 P, ho18 P, ho19 P, ho20 P, ho21 P, ho22 P, ho23 P, ho24 P, ho25 P, ho26 P, ho27 P, ho28 P, ho29x P, ho30 P, ho31 P, ho32 P, ho33 P, ho34 P, ho35 P, ho36 P, ho37 P, ho38 P, ho39 P, ho40 P, ho41 P, ho42 P, ho43 P, ho44 P, ho45 P], { }⟩
noncomputable def ho3xxx : Obj := ⟨.type "dict", none, .dict #[hk P "__name__" 165 (.str (hs "law_dn0069_08") 710), hk P "__doc__" 166 (.none), hk P "__package__" 167 (.none), hk P "__loader__" 168 (.builtin "__main__.__loader__#opaque"), hk P "__spec__" 169 (.none), hk P "__annotations__" 170 (.ref 6), hk P "__builtins__" 171 (.ref 4), hk P "__file__" 173 (.str (hs "/claim/cut.py") 172), hk P "__cached__" 174 (.none), hk P "_sre" 275 (.ref 12), hk P "_wall" 288 (.ref 38), hk P "_plain_name" 299 (.ref 45), hk P "ABCMeta" 325 (.ref 62), hk P "_ABCLike" 368 (.ref 95), hk P "_abc_plain_meta" 375 (.ref 104), hk P "fspath" 387 (.ref 111), hk P "commonprefix" 400 (.ref 118), hk P "_check_arg_types" 411 (.ref 125), hk P "_get_sep" 420 (.ref 132), hk P "join" 431 (.ref 139), hk P "splitroot" 440 (.ref 146), hk P "dirname" 450 (.ref 153), hk P "normpath" 465 (.ref 160), hk P "abspath" 472 (.ref 167), hk P "relpath" 489 (.ref 175), hk P "commonpath" 495 (.ref 180), hk P "_twin_re_1" 533 (.ref 185), hk P "_special_chars_map" 681 (.ref 187), hk P "escape" 688 (.ref 197), hk P "_translate" 709 (.ref 204), hk P "_law_one" 725 (.ref 211), hk P "_law_takes" 731 (.ref 216), hk P "_law_quoted" 737 (.ref 221), hk P "_law_drawn" 746 (.ref 228), hk P "_law_told" 753 (.ref 235), hk P "law" 759 (.ref 240)] 36, #[]⟩
noncomputable def ho29xx (P : Params) : Obj := ⟨.none, none, .fields #[.int (2) 0, .int (0) 0, .ref 37, .int (6) 0, .int (0) 0, .ref 44, .int (12) 0, .int (0) 0, .ref 51, .int (17) 0, .int (0) 0, .ref 70, .int (32) 0, .int (0) 0, .ref 103, .int (36) 0, .int (0) 0, .ref 110, .int (53) 0, .int (0) 0, .ref 117, .int (64) 0, .int (0) 0, .ref 124, .int (76) 0, .int (0) 0, .ref 131, .int (81) 0, .int (0) 0, .ref 138, .int (98) 0, .int (0) 0, .ref 145, .int (112) 0, .int (0) 0, .ref 152, .int (120) 0, .int (0) 0, .ref 159, .int (145) 0, .int (0) 0, .ref 166, .int (153) 0, .int (0) 0, .ref 174, .int (182) 0, .int (0) 0, .ref 179, .int (214) 0, .int (0) 0, .ref 196, .int (221) 0, .int (0) 0, .ref 203, .int (284) 0, .int (0) 0, .ref 210, .int (308) 0, .int (0) 0, .ref 215, .int (316) 0, .int (0) 0, .ref 220, .int (318) 0, .int (0) 0, .ref 227, .int (325) 0, .int (0) 0, .ref 234, .int (327) 0, .int (0) 0, .ref 239], #[]⟩
noncomputable def ho46 (P : Params) : Obj := ⟨.type "tuple", none, .seq #[.type "type"] 0, #[]⟩
noncomputable def ho47 (P : Params) : Obj := ⟨.type "builtin_function_or_method", none, .fields #[.builtin "type.__prepare__", .type "type"], #[]⟩
noncomputable def ho48 : Obj := ⟨.type "dict", none, .dict #[hk P "__module__" 309 (.str (hs "abc") 300), hk P "__qualname__" 311 (.str (hs "ABCMeta") 310), hk P "__firstlineno__" 313 (.int (12) 312), hk P "register" 321 (.ref 59), hk P "__static_attributes__" 322 (.ref 60)] 5, #[]⟩
noncomputable def ho49 (P : Params) : Obj := ⟨.type "tuple", none, .seq #[] 0, #[]⟩
noncomputable def ho50 (P : Params) : Obj := ⟨.none, none, .fields #[.int (14) 0, .int (4) 0, .ref 58], #[]⟩
noncomputable def ho51 (P : Params) : Obj := ⟨.type "code", none, .fields #[.str (hs "ABCMeta") 304, .str (hs "ABCMeta") 305, .str (hs "/claim/cut.py") 306, .int (12) 0, .int (0) 0, .int (0) 0, .int (0) 0, .int (0) 0, .ref 49, .bool false, .int (276) 0, .ref 50, .none, .none, .none, .none, .int (307) 0, .int (12) 0, .str (hs "/claim/cut.py") 308], #[]⟩
noncomputable def ho52 (P : Params) : Obj := ⟨.type "frame", none, .plain, #[some (.ref 51), some (.ref 3), some (.ref 48), none, some (.str (hs "abc") 300), none, some (.ref 0)]⟩
noncomputable def ho53 (P : Params) : Obj := ⟨.type "tuple", none, .seq #[] 0, #[]⟩
noncomputable def ho54 (P : Params) : Obj := ⟨.none, none, .fields #[], #[]⟩
noncomputable def ho55 (P : Params) : Obj := ⟨.type "tuple", none, .seq #[.str (hs "cls") 317, .str (hs "subclass") 318] 0, #[]⟩
noncomputable def ho56 (P : Params) : Obj := ⟨.type "tuple", none, .seq #[] 0, #[]⟩
noncomputable def ho57 (P : Params) : Obj := ⟨.none, none, .func ⟨hs "register", hs "ABCMeta.register", hPs (hAt hW [5, 0]), .stmts (hBd (hAt hW [5, 0])), hSc (hAt hW [5, 0]), 0, [], .none, .none, .none, .none, none, .none, .none, 0⟩, #[]⟩
noncomputable def ho58 (P : Params) : Obj := ⟨.type "code", none, .fields #[.str (hs "register") 314, .str (hs "ABCMeta.register") 315, .str (hs "/claim/cut.py") 316, .int (14) 0, .int (2) 0, .int (0) 0, .int (0) 0, .int (3) 0, .ref 53, .bool true, .int (276) 0, .ref 54, .none, .ref 55, .ref 56, .ref 57, .int (319) 0, .int (14) 0, .str (hs "/claim/cut.py") 320], #[]⟩
noncomputable def ho59 (P : Params) : Obj := ⟨.type "function", none, .func ⟨hs "register", hs "ABCMeta.register", hPs (hAt hW [5, 0]), .stmts (hBd (hAt hW [5, 0])), hSc (hAt hW [5, 0]), 3, [], .none, .none, .none, .str (hs "abc") 300, none, .ref 58, .none, 0⟩, #[]⟩
noncomputable def ho60 (P : Params) : Obj := ⟨.type "tuple", none, .seq #[] 0, #[]⟩
noncomputable def ho61 : Obj := ⟨.type "dict", none, .dict #[hk P "__module__" 309 (.str (hs "abc") 300), hk P "__firstlineno__" 313 (.int (12) 312), hk P "register" 321 (.ref 59), hk P "__static_attributes__" 322 (.ref 60), hk P "__doc__" 323 (.none)] 2, #[]⟩
noncomputable def ho62 (P : Params) : Obj := ⟨.type "type", none, .cls ⟨hs "ABCMeta", [.type "type"], [.ref 62, .type "type", .type "object"], 61, hs "ABCMeta", true, [], [.ref 95], false, none, false⟩, #[some (.ref 46), none, some (.str (hs "ABCMeta") 302), some (.str (hs "ABCMeta") 310), some (.builtin "type.__new__"), some (.bool true)]⟩
noncomputable def ho63 (P : Params) : Obj := ⟨.type "super", none, .fields #[.ref 62, .ref 62, .ref 62], #[]⟩
noncomputable def ho64 (P : Params) : Obj := ⟨.type "builtin_function_or_method", none, .fields #[.builtin "object.__init_subclass__", .ref 62], #[]⟩
noncomputable def ho65 (P : Params) : Obj := ⟨.type "tuple", none, .seq #[.ref 62] 0, #[]⟩
noncomputable def ho66 (P : Params) : Obj := ⟨.type "builtin_function_or_method", none, .fields #[.builtin "type.__prepare__", .type "type"], #[]⟩
noncomputable def ho67 : Obj := ⟨.type "dict", none, .dict #[hk P "__module__" 335 (.str (hs "collections.abc") 326), hk P "__qualname__" 337 (.str (hs "_ABCLike") 336), hk P "__firstlineno__" 339 (.int (17) 338), hk P "__instancecheck__" 348 (.ref 78), hk P "__subclasscheck__" 356 (.ref 85), hk P "register" 364 (.ref 92), hk P "__static_attributes__" 365 (.ref 93)] 7, #[]⟩
noncomputable def ho68 (P : Params) : Obj := ⟨.type "tuple", none, .seq #[] 0, #[]⟩
noncomputable def ho69 (P : Params) : Obj := ⟨.none, none, .fields #[.int (19) 0, .int (4) 0, .ref 77, .int (25) 0, .int (4) 0, .ref 84, .int (30) 0, .int (4) 0, .ref 91], #[]⟩
noncomputable def ho70 (P : Params) : Obj := ⟨.type "code", none, .fields #[.str (hs "_ABCLike") 330, .str (hs "_ABCLike") 331, .str (hs "/claim/cut.py") 332, .int (17) 0, .int (0) 0, .int (0) 0, .int (0) 0, .int (0) 0, .ref 68, .bool false, .int (276) 0, .ref 69, .none, .none, .none, .none, .int (333) 0, .int (17) 0, .str (hs "/claim/cut.py") 334], #[]⟩
noncomputable def ho71 (P : Params) : Obj := ⟨.type "frame", none, .plain, #[some (.ref 70), some (.ref 3), some (.ref 67), none, some (.str (hs "collections.abc") 326), none, some (.ref 0)]⟩
noncomputable def ho72 (P : Params) : Obj := ⟨.type "tuple", none, .seq #[] 0, #[]⟩
noncomputable def ho73 (P : Params) : Obj := ⟨.none, none, .fields #[], #[]⟩
noncomputable def ho74 (P : Params) : Obj := ⟨.type "tuple", none, .seq #[.str (hs "cls") 343, .str (⟨#[105, 110, 115, 116, 97, 110, 99, 101]⟩) 344, .str (hs "C") 345] 0, #[]⟩
noncomputable def ho75 (P : Params) : Obj := ⟨.type "tuple", none, .seq #[] 0, #[]⟩
noncomputable def ho76 (P : Params) : Obj := ⟨.none, none, .func ⟨hs "__instancecheck__", hs "_ABCLike.__instancecheck__", hPs (hAt hW [7, 0]), .stmts (hBd (hAt hW [7, 0])), hSc (hAt hW [7, 0]), 0, [], .none, .none, .none, .none, none, .none, .none, 0⟩, #[]⟩
noncomputable def ho77 (P : Params) : Obj := ⟨.type "code", none, .fields #[.str (hs "__instancecheck__") 340, .str (hs "_ABCLike.__instancecheck__") 341, .str (hs "/claim/cut.py") 342, .int (19) 0, .int (2) 0, .int (0) 0, .int (0) 0, .int (3) 0, .ref 72, .bool true, .int (276) 0, .ref 73, .none, .ref 74, .ref 75, .ref 76, .int (346) 0, .int (19) 0, .str (hs "/claim/cut.py") 347], #[]⟩
noncomputable def ho78 (P : Params) : Obj := ⟨.type "function", none, .func ⟨hs "__instancecheck__", hs "_ABCLike.__instancecheck__", hPs (hAt hW [7, 0]), .stmts (hBd (hAt hW [7, 0])), hSc (hAt hW [7, 0]), 3, [], .none, .none, .none, .str (hs "collections.abc") 326, none, .ref 77, .none, 0⟩, #[]⟩
noncomputable def ho79 (P : Params) : Obj := ⟨.type "tuple", none, .seq #[] 0, #[]⟩
noncomputable def ho80 (P : Params) : Obj := ⟨.none, none, .fields #[], #[]⟩
noncomputable def ho81 (P : Params) : Obj := ⟨.type "tuple", none, .seq #[.str (hs "cls") 352, .str (hs "C") 353] 0, #[]⟩
noncomputable def ho82 (P : Params) : Obj := ⟨.type "tuple", none, .seq #[] 0, #[]⟩
noncomputable def ho83 (P : Params) : Obj := ⟨.none, none, .func ⟨hs "__subclasscheck__", hs "_ABCLike.__subclasscheck__", hPs (hAt hW [7, 1]), .stmts (hBd (hAt hW [7, 1])), hSc (hAt hW [7, 1]), 0, [], .none, .none, .none, .none, none, .none, .none, 0⟩, #[]⟩
noncomputable def ho84 (P : Params) : Obj := ⟨.type "code", none, .fields #[.str (hs "__subclasscheck__") 349, .str (hs "_ABCLike.__subclasscheck__") 350, .str (hs "/claim/cut.py") 351, .int (25) 0, .int (2) 0, .int (0) 0, .int (0) 0, .int (3) 0, .ref 79, .bool true, .int (276) 0, .ref 80, .none, .ref 81, .ref 82, .ref 83, .int (354) 0, .int (25) 0, .str (hs "/claim/cut.py") 355], #[]⟩
noncomputable def ho85 (P : Params) : Obj := ⟨.type "function", none, .func ⟨hs "__subclasscheck__", hs "_ABCLike.__subclasscheck__", hPs (hAt hW [7, 1]), .stmts (hBd (hAt hW [7, 1])), hSc (hAt hW [7, 1]), 3, [], .none, .none, .none, .str (hs "collections.abc") 326, none, .ref 84, .none, 0⟩, #[]⟩
noncomputable def ho86 (P : Params) : Obj := ⟨.type "tuple", none, .seq #[] 0, #[]⟩
noncomputable def ho87 (P : Params) : Obj := ⟨.none, none, .fields #[], #[]⟩
noncomputable def ho88 (P : Params) : Obj := ⟨.type "tuple", none, .seq #[.str (hs "cls") 360, .str (hs "subclass") 361] 0, #[]⟩
noncomputable def ho89 (P : Params) : Obj := ⟨.type "tuple", none, .seq #[] 0, #[]⟩
noncomputable def ho90 (P : Params) : Obj := ⟨.none, none, .func ⟨hs "register", hs "_ABCLike.register", hPs (hAt hW [7, 2]), .stmts (hBd (hAt hW [7, 2])), hSc (hAt hW [7, 2]), 0, [], .none, .none, .none, .none, none, .none, .none, 0⟩, #[]⟩
noncomputable def ho91 (P : Params) : Obj := ⟨.type "code", none, .fields #[.str (hs "register") 357, .str (hs "_ABCLike.register") 358, .str (hs "/claim/cut.py") 359, .int (30) 0, .int (2) 0, .int (0) 0, .int (0) 0, .int (3) 0, .ref 86, .bool true, .int (276) 0, .ref 87, .none, .ref 88, .ref 89, .ref 90, .int (362) 0, .int (30) 0, .str (hs "/claim/cut.py") 363], #[]⟩
noncomputable def ho92 (P : Params) : Obj := ⟨.type "function", none, .func ⟨hs "register", hs "_ABCLike.register", hPs (hAt hW [7, 2]), .stmts (hBd (hAt hW [7, 2])), hSc (hAt hW [7, 2]), 3, [], .none, .none, .none, .str (hs "collections.abc") 326, none, .ref 91, .none, 0⟩, #[]⟩
noncomputable def ho93 (P : Params) : Obj := ⟨.type "tuple", none, .seq #[] 0, #[]⟩
noncomputable def ho94 : Obj := ⟨.type "dict", none, .dict #[hk P "__module__" 335 (.str (hs "collections.abc") 326), hk P "__firstlineno__" 339 (.int (17) 338), hk P "__instancecheck__" 348 (.ref 78), hk P "__subclasscheck__" 356 (.ref 85), hk P "register" 364 (.ref 92), hk P "__static_attributes__" 365 (.ref 93), hk P "__doc__" 366 (.none)] 2, #[]⟩
noncomputable def ho95 (P : Params) : Obj := ⟨.type "type", none, .cls ⟨hs "_ABCLike", [.ref 62], [.ref 95, .ref 62, .type "type", .type "object"], 94, hs "_ABCLike", true, [], [], false, none, false⟩, #[some (.ref 65), none, some (.str (hs "_ABCLike") 328), some (.str (hs "_ABCLike") 336), some (.builtin "type.__new__"), some (.bool true)]⟩
noncomputable def ho96 (P : Params) : Obj := ⟨.type "super", none, .fields #[.ref 95, .ref 95, .ref 95], #[]⟩
noncomputable def ho97 (P : Params) : Obj := ⟨.type "builtin_function_or_method", none, .fields #[.builtin "object.__init_subclass__", .ref 95], #[]⟩
noncomputable def ho98 (P : Params) : Obj := ⟨.type "tuple", none, .seq #[] 0, #[]⟩
noncomputable def ho99 (P : Params) : Obj := ⟨.none, none, .fields #[], #[]⟩
noncomputable def ho100 (P : Params) : Obj := ⟨.type "tuple", none, .seq #[.str (hs "C") 372] 0, #[]⟩
noncomputable def ho101 (P : Params) : Obj := ⟨.type "tuple", none, .seq #[] 0, #[]⟩
noncomputable def ho102 (P : Params) : Obj := ⟨.none, none, .func ⟨hs "_abc_plain_meta", hs "_abc_plain_meta", hPs (hAt hW [8]), .stmts (hBd (hAt hW [8])), hSc (hAt hW [8]), 0, [], .none, .none, .none, .none, none, .none, .none, 0⟩, #[]⟩
noncomputable def ho103 (P : Params) : Obj := ⟨.type "code", none, .fields #[.str (hs "_abc_plain_meta") 369, .str (hs "_abc_plain_meta") 370, .str (hs "/claim/cut.py") 371, .int (32) 0, .int (1) 0, .int (0) 0, .int (0) 0, .int (3) 0, .ref 98, .bool true, .int (276) 0, .ref 99, .none, .ref 100, .ref 101, .ref 102, .int (373) 0, .int (32) 0, .str (hs "/claim/cut.py") 374], #[]⟩
noncomputable def ho104 (P : Params) : Obj := ⟨.type "function", none, .func ⟨hs "_abc_plain_meta", hs "_abc_plain_meta", hPs (hAt hW [8]), .stmts (hBd (hAt hW [8])), hSc (hAt hW [8]), 3, [], .none, .none, .none, .str (hs "collections.abc") 326, none, .ref 103, .none, 0⟩, #[]⟩
noncomputable def ho105 (P : Params) : Obj := ⟨.type "tuple", none, .seq #[] 0, #[]⟩
noncomputable def ho106 (P : Params) : Obj := ⟨.none, none, .fields #[], #[]⟩
noncomputable def ho107 (P : Params) : Obj := ⟨.type "tuple", none, .seq #[.str (hs "path") 381, .str (hs "kind") 382, .str (hs "hook") 383, .str (hs "given") 384] 0, #[]⟩
noncomputable def ho108 (P : Params) : Obj := ⟨.type "tuple", none, .seq #[] 0, #[]⟩
noncomputable def ho109 (P : Params) : Obj := ⟨.none, none, .func ⟨hs "fspath", hs "fspath", hPs (hAt hW [10]), .stmts (hBd (hAt hW [10])), hSc (hAt hW [10]), 0, [], .none, .none, .none, .none, none, .none, .none, 0⟩, #[]⟩
noncomputable def ho110 (P : Params) : Obj := ⟨.type "code", none, .fields #[.str (hs "fspath") 378, .str (hs "fspath") 379, .str (hs "/claim/cut.py") 380, .int (36) 0, .int (1) 0, .int (0) 0, .int (0) 0, .int (3) 0, .ref 105, .bool true, .int (276) 0, .ref 106, .none, .ref 107, .ref 108, .ref 109, .int (385) 0, .int (36) 0, .str (hs "/claim/cut.py") 386], #[]⟩
noncomputable def ho111 (P : Params) : Obj := ⟨.type "function", none, .func ⟨hs "fspath", hs "fspath", hPs (hAt hW [10]), .stmts (hBd (hAt hW [10])), hSc (hAt hW [10]), 3, [], .none, .none, .none, .str (hs "os") 376, none, .ref 110, .none, 0⟩, #[]⟩
noncomputable def ho112 (P : Params) : Obj := ⟨.type "tuple", none, .seq #[] 0, #[]⟩
noncomputable def ho113 (P : Params) : Obj := ⟨.none, none, .fields #[], #[]⟩
noncomputable def ho114 (P : Params) : Obj := ⟨.type "tuple", none, .seq #[.str (hs "m") 393, .str (hs "s1") 394, .str (hs "s2") 395, .str (hs "i") 396, .str (hs "c") 397] 0, #[]⟩
noncomputable def ho115 (P : Params) : Obj := ⟨.type "tuple", none, .seq #[] 0, #[]⟩
noncomputable def ho116 (P : Params) : Obj := ⟨.none, none, .func ⟨hs "commonprefix", hs "commonprefix", hPs (hAt hW [12]), .stmts (hBd (hAt hW [12])), hSc (hAt hW [12]), 0, [], .none, .none, .none, .none, none, .none, .none, 0⟩, #[]⟩
noncomputable def ho117 (P : Params) : Obj := ⟨.type "code", none, .fields #[.str (hs "commonprefix") 390, .str (hs "commonprefix") 391, .str (hs "/claim/cut.py") 392, .int (53) 0, .int (1) 0, .int (0) 0, .int (0) 0, .int (3) 0, .ref 112, .bool true, .int (276) 0, .ref 113, .none, .ref 114, .ref 115, .ref 116, .int (398) 0, .int (53) 0, .str (hs "/claim/cut.py") 399], #[]⟩
noncomputable def ho118 (P : Params) : Obj := ⟨.type "function", none, .func ⟨hs "commonprefix", hs "commonprefix", hPs (hAt hW [12]), .stmts (hBd (hAt hW [12])), hSc (hAt hW [12]), 3, [], .none, .none, .none, .str (hs "cpy313.genericpath") 388, none, .ref 117, .none, 0⟩, #[]⟩
noncomputable def ho119 (P : Params) : Obj := ⟨.type "tuple", none, .seq #[] 0, #[]⟩
noncomputable def ho120 (P : Params) : Obj := ⟨.none, none, .fields #[], #[]⟩
noncomputable def ho121 (P : Params) : Obj := ⟨.type "tuple", none, .seq #[.str (hs "funcname") 404, .str (hs "args") 405, .str (hs "hasstr") 406, .str (hs "hasbytes") 407, .str (hs "s") 408] 0, #[]⟩
noncomputable def ho122 (P : Params) : Obj := ⟨.type "tuple", none, .seq #[] 0, #[]⟩
noncomputable def ho123 (P : Params) : Obj := ⟨.none, none, .func ⟨hs "_check_arg_types", hs "_check_arg_types", hPs (hAt hW [13]), .stmts (hBd (hAt hW [13])), hSc (hAt hW [13]), 0, [], .none, .none, .none, .none, none, .none, .none, 0⟩, #[]⟩
noncomputable def ho124 (P : Params) : Obj := ⟨.type "code", none, .fields #[.str (hs "_check_arg_types") 401, .str (hs "_check_arg_types") 402, .str (hs "/claim/cut.py") 403, .int (64) 0, .int (1) 0, .int (0) 0, .int (0) 0, .int (7) 0, .ref 119, .bool true, .int (276) 0, .ref 120, .none, .ref 121, .ref 122, .ref 123, .int (409) 0, .int (64) 0, .str (hs "/claim/cut.py") 410], #[]⟩
noncomputable def ho125 (P : Params) : Obj := ⟨.type "function", none, .func ⟨hs "_check_arg_types", hs "_check_arg_types", hPs (hAt hW [13]), .stmts (hBd (hAt hW [13])), hSc (hAt hW [13]), 3, [], .none, .none, .none, .str (hs "cpy313.genericpath") 388, none, .ref 124, .none, 0⟩, #[]⟩
noncomputable def ho126 (P : Params) : Obj := ⟨.type "tuple", none, .seq #[] 0, #[]⟩
noncomputable def ho127 (P : Params) : Obj := ⟨.none, none, .fields #[], #[]⟩
noncomputable def ho128 (P : Params) : Obj := ⟨.type "tuple", none, .seq #[.str (hs "path") 417] 0, #[]⟩
noncomputable def ho129 (P : Params) : Obj := ⟨.type "tuple", none, .seq #[] 0, #[]⟩
noncomputable def ho130 (P : Params) : Obj := ⟨.none, none, .func ⟨hs "_get_sep", hs "_get_sep", hPs (hAt hW [15]), .stmts (hBd (hAt hW [15])), hSc (hAt hW [15]), 0, [], .none, .none, .none, .none, none, .none, .none, 0⟩, #[]⟩
noncomputable def ho131 (P : Params) : Obj := ⟨.type "code", none, .fields #[.str (hs "_get_sep") 414, .str (hs "_get_sep") 415, .str (hs "/claim/cut.py") 416, .int (76) 0, .int (1) 0, .int (0) 0, .int (0) 0, .int (3) 0, .ref 126, .bool true, .int (276) 0, .ref 127, .none, .ref 128, .ref 129, .ref 130, .int (418) 0, .int (76) 0, .str (hs "/claim/cut.py") 419], #[]⟩
noncomputable def ho132 (P : Params) : Obj := ⟨.type "function", none, .func ⟨hs "_get_sep", hs "_get_sep", hPs (hAt hW [15]), .stmts (hBd (hAt hW [15])), hSc (hAt hW [15]), 3, [], .none, .none, .none, .str (hs "cpy313.posixpath") 412, none, .ref 131, .none, 0⟩, #[]⟩
noncomputable def ho133 (P : Params) : Obj := ⟨.type "tuple", none, .seq #[] 0, #[]⟩
noncomputable def ho134 (P : Params) : Obj := ⟨.none, none, .fields #[], #[]⟩
noncomputable def ho135 (P : Params) : Obj := ⟨.type "tuple", none, .seq #[.str (hs "a") 424, .str (hs "p") 425, .str (hs "sep") 426, .str (hs "path") 427, .str (hs "b") 428] 0, #[]⟩
noncomputable def ho136 (P : Params) : Obj := ⟨.type "tuple", none, .seq #[] 0, #[]⟩
noncomputable def ho137 (P : Params) : Obj := ⟨.none, none, .func ⟨hs "join", hs "join", hPs (hAt hW [16]), .stmts (hBd (hAt hW [16])), hSc (hAt hW [16]), 0, [], .none, .none, .none, .none, none, .none, .none, 0⟩, #[]⟩
noncomputable def ho138 (P : Params) : Obj := ⟨.type "code", none, .fields #[.str (hs "join") 421, .str (hs "join") 422, .str (hs "/claim/cut.py") 423, .int (81) 0, .int (1) 0, .int (0) 0, .int (0) 0, .int (7) 0, .ref 133, .bool true, .int (276) 0, .ref 134, .none, .ref 135, .ref 136, .ref 137, .int (429) 0, .int (81) 0, .str (hs "/claim/cut.py") 430], #[]⟩
noncomputable def ho139 (P : Params) : Obj := ⟨.type "function", none, .func ⟨hs "join", hs "join", hPs (hAt hW [16]), .stmts (hBd (hAt hW [16])), hSc (hAt hW [16]), 3, [], .none, .none, .none, .str (hs "cpy313.posixpath") 412, none, .ref 138, .none, 0⟩, #[]⟩
noncomputable def ho140 (P : Params) : Obj := ⟨.type "tuple", none, .seq #[] 0, #[]⟩
noncomputable def ho141 (P : Params) : Obj := ⟨.none, none, .fields #[], #[]⟩
noncomputable def ho142 (P : Params) : Obj := ⟨.type "tuple", none, .seq #[.str (hs "p") 435, .str (hs "sep") 436, .str (hs "empty") 437] 0, #[]⟩
noncomputable def ho143 (P : Params) : Obj := ⟨.type "tuple", none, .seq #[] 0, #[]⟩
noncomputable def ho144 (P : Params) : Obj := ⟨.none, none, .func ⟨hs "splitroot", hs "splitroot", hPs (hAt hW [17]), .stmts (hBd (hAt hW [17])), hSc (hAt hW [17]), 0, [], .none, .none, .none, .none, none, .none, .none, 0⟩, #[]⟩
noncomputable def ho145 (P : Params) : Obj := ⟨.type "code", none, .fields #[.str (hs "splitroot") 432, .str (hs "splitroot") 433, .str (hs "/claim/cut.py") 434, .int (98) 0, .int (1) 0, .int (0) 0, .int (0) 0, .int (3) 0, .ref 140, .bool true, .int (276) 0, .ref 141, .none, .ref 142, .ref 143, .ref 144, .int (438) 0, .int (98) 0, .str (hs "/claim/cut.py") 439], #[]⟩
noncomputable def ho146 (P : Params) : Obj := ⟨.type "function", none, .func ⟨hs "splitroot", hs "splitroot", hPs (hAt hW [17]), .stmts (hBd (hAt hW [17])), hSc (hAt hW [17]), 3, [], .none, .none, .none, .str (hs "cpy313.posixpath") 412, none, .ref 145, .none, 0⟩, #[]⟩
noncomputable def ho147 (P : Params) : Obj := ⟨.type "tuple", none, .seq #[] 0, #[]⟩
noncomputable def ho148 (P : Params) : Obj := ⟨.none, none, .fields #[], #[]⟩
noncomputable def ho149 (P : Params) : Obj := ⟨.type "tuple", none, .seq #[.str (hs "p") 444, .str (hs "sep") 445, .str (hs "i") 446, .str (hs "head") 447] 0, #[]⟩
noncomputable def ho150 (P : Params) : Obj := ⟨.type "tuple", none, .seq #[] 0, #[]⟩
noncomputable def ho151 (P : Params) : Obj := ⟨.none, none, .func ⟨hs "dirname", hs "dirname", hPs (hAt hW [18]), .stmts (hBd (hAt hW [18])), hSc (hAt hW [18]), 0, [], .none, .none, .none, .none, none, .none, .none, 0⟩, #[]⟩
noncomputable def ho152 (P : Params) : Obj := ⟨.type "code", none, .fields #[.str (hs "dirname") 441, .str (hs "dirname") 442, .str (hs "/claim/cut.py") 443, .int (112) 0, .int (1) 0, .int (0) 0, .int (0) 0, .int (3) 0, .ref 147, .bool true, .int (276) 0, .ref 148, .none, .ref 149, .ref 150, .ref 151, .int (448) 0, .int (112) 0, .str (hs "/claim/cut.py") 449], #[]⟩
noncomputable def ho153 (P : Params) : Obj := ⟨.type "function", none, .func ⟨hs "dirname", hs "dirname", hPs (hAt hW [18]), .stmts (hBd (hAt hW [18])), hSc (hAt hW [18]), 3, [], .none, .none, .none, .str (hs "cpy313.posixpath") 412, none, .ref 152, .none, 0⟩, #[]⟩
noncomputable def ho154 (P : Params) : Obj := ⟨.type "tuple", none, .seq #[] 0, #[]⟩
noncomputable def ho155 (P : Params) : Obj := ⟨.none, none, .fields #[], #[]⟩
noncomputable def ho156 (P : Params) : Obj := ⟨.type "tuple", none, .seq #[.str (hs "path") 454, .str (hs "sep") 455, .str (hs "dot") 456, .str (hs "dotdot") 457, .str (hs "_") 458, .str (hs "initial_slashes") 459, .str (hs "comps") 460, .str (hs "new_comps") 461, .str (hs "comp") 462] 0, #[]⟩
noncomputable def ho157 (P : Params) : Obj := ⟨.type "tuple", none, .seq #[] 0, #[]⟩
noncomputable def ho158 (P : Params) : Obj := ⟨.none, none, .func ⟨hs "normpath", hs "normpath", hPs (hAt hW [19]), .stmts (hBd (hAt hW [19])), hSc (hAt hW [19]), 0, [], .none, .none, .none, .none, none, .none, .none, 0⟩, #[]⟩
noncomputable def ho159 (P : Params) : Obj := ⟨.type "code", none, .fields #[.str (hs "normpath") 451, .str (hs "normpath") 452, .str (hs "/claim/cut.py") 453, .int (120) 0, .int (1) 0, .int (0) 0, .int (0) 0, .int (3) 0, .ref 154, .bool true, .int (276) 0, .ref 155, .none, .ref 156, .ref 157, .ref 158, .int (463) 0, .int (120) 0, .str (hs "/claim/cut.py") 464], #[]⟩
noncomputable def ho160 (P : Params) : Obj := ⟨.type "function", none, .func ⟨hs "normpath", hs "normpath", hPs (hAt hW [19]), .stmts (hBd (hAt hW [19])), hSc (hAt hW [19]), 3, [], .none, .none, .none, .str (hs "cpy313.posixpath") 412, none, .ref 159, .none, 0⟩, #[]⟩
noncomputable def ho161 (P : Params) : Obj := ⟨.type "tuple", none, .seq #[] 0, #[]⟩
noncomputable def ho162 (P : Params) : Obj := ⟨.none, none, .fields #[], #[]⟩
noncomputable def ho163 (P : Params) : Obj := ⟨.type "tuple", none, .seq #[.str (hs "path") 469] 0, #[]⟩
noncomputable def ho164 (P : Params) : Obj := ⟨.type "tuple", none, .seq #[] 0, #[]⟩
noncomputable def ho165 (P : Params) : Obj := ⟨.none, none, .func ⟨hs "abspath", hs "abspath", hPs (hAt hW [20]), .stmts (hBd (hAt hW [20])), hSc (hAt hW [20]), 0, [], .none, .none, .none, .none, none, .none, .none, 0⟩, #[]⟩
noncomputable def ho166 (P : Params) : Obj := ⟨.type "code", none, .fields #[.str (hs "abspath") 466, .str (hs "abspath") 467, .str (hs "/claim/cut.py") 468, .int (145) 0, .int (1) 0, .int (0) 0, .int (0) 0, .int (3) 0, .ref 161, .bool true, .int (276) 0, .ref 162, .none, .ref 163, .ref 164, .ref 165, .int (470) 0, .int (145) 0, .str (hs "/claim/cut.py") 471], #[]⟩
noncomputable def ho167 (P : Params) : Obj := ⟨.type "function", none, .func ⟨hs "abspath", hs "abspath", hPs (hAt hW [20]), .stmts (hBd (hAt hW [20])), hSc (hAt hW [20]), 3, [], .none, .none, .none, .str (hs "cpy313.posixpath") 412, none, .ref 166, .none, 0⟩, #[]⟩
noncomputable def ho168 (P : Params) : Obj := ⟨.type "tuple", none, .seq #[.none] 0, #[]⟩
noncomputable def ho169 (P : Params) : Obj := ⟨.type "tuple", none, .seq #[] 0, #[]⟩
noncomputable def ho170 (P : Params) : Obj := ⟨.none, none, .fields #[], #[]⟩
noncomputable def ho171 (P : Params) : Obj := ⟨.type "tuple", none, .seq #[.str (hs "path") 476, .str (hs "start") 477, .str (hs "curdir") 478, .str (hs "sep") 479, .str (hs "pardir") 480, .str (hs "start_tail") 481, .str (hs "path_tail") 482, .str (hs "start_list") 483, .str (hs "path_list") 484, .str (hs "i") 485, .str (hs "rel_list") 486] 0, #[]⟩
noncomputable def ho172 (P : Params) : Obj := ⟨.type "tuple", none, .seq #[] 0, #[]⟩
noncomputable def ho173 (P : Params) : Obj := ⟨.none, none, .func ⟨hs "relpath", hs "relpath", hPs (hAt hW [21]), .stmts (hBd (hAt hW [21])), hSc (hAt hW [21]), 0, [], .none, .none, .none, .none, none, .none, .none, 0⟩, #[]⟩
noncomputable def ho174 (P : Params) : Obj := ⟨.type "code", none, .fields #[.str (hs "relpath") 473, .str (hs "relpath") 474, .str (hs "/claim/cut.py") 475, .int (153) 0, .int (2) 0, .int (0) 0, .int (0) 0, .int (3) 0, .ref 169, .bool true, .int (276) 0, .ref 170, .none, .ref 171, .ref 172, .ref 173, .int (487) 0, .int (153) 0, .str (hs "/claim/cut.py") 488], #[]⟩
noncomputable def ho175 (P : Params) : Obj := ⟨.type "function", none, .func ⟨hs "relpath", hs "relpath", hPs (hAt hW [21]), .stmts (hBd (hAt hW [21])), hSc (hAt hW [21]), 3, [], .ref 168, .none, .none, .str (hs "cpy313.posixpath") 412, none, .ref 174, .none, 0⟩, #[]⟩
noncomputable def ho176 (P : Params) : Obj := ⟨.type "tuple", none, .seq #[] 0, #[]⟩
noncomputable def ho177 (P : Params) : Obj := ⟨.none, none, .fields #[], #[]⟩
noncomputable def ho178 (P : Params) : Obj := ⟨.none, none, .func ⟨hs "commonpath", hs "commonpath", hPs (hAt hW [22]), .stmts (hBd (hAt hW [22])), hSc (hAt hW [22]), 0, [], .none, .none, .none, .none, none, .none, .none, 0⟩, #[]⟩
noncomputable def ho179 (P : Params) : Obj := ⟨.type "code", none, .fields #[.str (hs "commonpath") 490, .str (hs "commonpath") 491, .str (hs "/claim/cut.py") 492, .int (182) 0, .int (1) 0, .int (0) 0, .int (0) 0, .int (3) 0, .ref 176, .bool true, .int (276) 0, .ref 177, .none, .none, .none, .ref 178, .int (493) 0, .int (182) 0, .str (hs "/claim/cut.py") 494], #[]⟩
noncomputable def ho180 (P : Params) : Obj := ⟨.type "function", none, .func ⟨hs "commonpath", hs "commonpath", hPs (hAt hW [22]), .stmts (hBd (hAt hW [22])), hSc (hAt hW [22]), 3, [], .none, .none, .none, .str (hs "cpy313.posixpath") 412, none, .ref 179, .none, 0⟩, #[]⟩
noncomputable def ho181 (P : Params) : Obj := ⟨.type "list", none, .seq #[.int (14) 499, .int (14) 500, .int (4) 501, .int (1) 502, .int (1) 503, .int (9) 504, .int (0) 505, .int (64) 506, .int (0) 507, .int (1342177280) 508, .int (0) 509, .int (0) 510, .int (0) 511, .int (0) 512, .int (0) 513, .int (17) 514, .int (0) 515, .int (13) 516, .int (11) 517, .int (9) 518, .int (0) 519, .int (64) 520, .int (0) 521, .int (1342177280) 522, .int (0) 523, .int (0) 524, .int (0) 525, .int (0) 526, .int (0) 527, .int (17) 528, .int (1) 529, .int (1) 530] 0, #[]⟩
noncomputable def ho182 (P : Params) : Obj := ⟨.type "dict", none, .dict #[] 0, #[]⟩
noncomputable def ho183 (P : Params) : Obj := ⟨.type "tuple", none, .seq #[.none, .none] 0, #[]⟩
noncomputable def ho184 (P : Params) : Obj := ⟨.type "tuple", none, .seq #[.int (14) 0, .int (14) 0, .int (4) 0, .int (1) 0, .int (1) 0, .int (9) 0, .int (0) 0, .int (64) 0, .int (0) 0, .int (1342177280) 0, .int (0) 0, .int (0) 0, .int (0) 0, .int (0) 0, .int (0) 0, .int (17) 0, .int (0) 0, .int (13) 0, .int (11) 0, .int (9) 0, .int (0) 0, .int (64) 0, .int (0) 0, .int (1342177280) 0, .int (0) 0, .int (0) 0, .int (0) 0, .int (0) 0, .int (0) 0, .int (17) 0, .int (1) 0, .int (1) 0] 0, #[]⟩
noncomputable def ho185 (P : Params) : Obj := ⟨.type "re.Pattern", none, .fields #[.str (hs "([&~|])") 497, .int (32) 532, .int (1) 0, .none, .none, .ref 184, .int (0) 0], #[]⟩
noncomputable def ho186 (P : Params) : Obj := ⟨.type "bytes_iterator", none, .fields #[.none, .int (24) 0], #[]⟩
noncomputable def ho187 (P : Params) : Obj := ⟨.type "dict", none, .dict #[⟨40, .int (40) 537, .str (hs "\\(") 541⟩, ⟨41, .int (41) 543, .str (hs "\\)") 547⟩, ⟨91, .int (91) 549, .str (hs "\\[") 553⟩, ⟨93, .int (93) 555, .str (hs "\\]") 559⟩, ⟨123, .int (123) 561, .str (hs "\\{") 565⟩, ⟨125, .int (125) 567, .str (hs "\\}") 571⟩, ⟨63, .int (63) 573, .str (hs "\\?") 577⟩, ⟨42, .int (42) 579, .str (hs "\\*") 583⟩, ⟨43, .int (43) 585, .str (hs "\\+") 589⟩, ⟨45, .int (45) 591, .str (hs "\\-") 595⟩, ⟨124, .int (124) 597, .str (hs "\\|") 601⟩, ⟨94, .int (94) 603, .str (hs "\\^") 607⟩, ⟨36, .int (36) 609, .str (hs "\\$") 613⟩, ⟨92, .int (92) 615, .str (hs "\\\\") 619⟩, ⟨46, .int (46) 621, .str (hs "\\.") 625⟩, ⟨38, .int (38) 627, .str (hs "\\&") 631⟩, ⟨126, .int (126) 633, .str (hs "\\~") 637⟩, ⟨35, .int (35) 639, .str (hs "\\#") 643⟩, ⟨32, .int (32) 645, .str (hs "\\ ") 649⟩, ⟨9, .int (9) 651, .str ((⟨#[92, 9]⟩ : PySem.Str)) 655⟩, ⟨10, .int (10) 657, .str ((⟨#[92, 10]⟩ : PySem.Str)) 661⟩, ⟨13, .int (13) 663, .str ((⟨#[92, 13]⟩ : PySem.Str)) 667⟩, ⟨11, .int (11) 669, .str ((⟨#[92, 11]⟩ : PySem.Str)) 673⟩, ⟨12, .int (12) 675, .str ((⟨#[92, 12]⟩ : PySem.Str)) 679⟩] 24, #[]⟩
noncomputable def ho188 (P : Params) : Obj := ⟨.type "dict", none, .dict #[] 2, #[]⟩
noncomputable def ho189 (P : Params) : Obj := ⟨.type "tuple", none, .seq #[] 0, #[]⟩
noncomputable def ho190 (P : Params) : Obj := ⟨.type "StopIteration", none, .fields #[.ref 189, .none, .none, .none, .bool false, .none], #[]⟩
noncomputable def ho191 (P : Params) : Obj := ⟨.type "tuple", none, .seq #[] 0, #[]⟩
noncomputable def ho192 (P : Params) : Obj := ⟨.none, none, .fields #[], #[]⟩
noncomputable def ho193 (P : Params) : Obj := ⟨.type "tuple", none, .seq #[.str (hs "pattern") 685] 0, #[]⟩
noncomputable def ho194 (P : Params) : Obj := ⟨.type "tuple", none, .seq #[] 0, #[]⟩
noncomputable def ho195 (P : Params) : Obj := ⟨.none, none, .func ⟨hs "escape", hs "escape", hPs (hAt hW [26]), .stmts (hBd (hAt hW [26])), hSc (hAt hW [26]), 0, [], .none, .none, .none, .none, none, .none, .none, 0⟩, #[]⟩
noncomputable def ho196 (P : Params) : Obj := ⟨.type "code", none, .fields #[.str (hs "escape") 682, .str (hs "escape") 683, .str (hs "/claim/cut.py") 684, .int (214) 0, .int (1) 0, .int (0) 0, .int (0) 0, .int (3) 0, .ref 191, .bool true, .int (276) 0, .ref 192, .none, .ref 193, .ref 194, .ref 195, .int (686) 0, .int (214) 0, .str (hs "/claim/cut.py") 687], #[]⟩
noncomputable def ho197 (P : Params) : Obj := ⟨.type "function", none, .func ⟨hs "escape", hs "escape", hPs (hAt hW [26]), .stmts (hBd (hAt hW [26])), hSc (hAt hW [26]), 3, [], .none, .none, .none, .str (hs "re") 534, none, .ref 196, .none, 0⟩, #[]⟩
noncomputable def ho198 (P : Params) : Obj := ⟨.type "tuple", none, .seq #[] 0, #[]⟩
noncomputable def ho199 (P : Params) : Obj := ⟨.none, none, .fields #[], #[]⟩
noncomputable def ho200 (P : Params) : Obj := ⟨.type "tuple", none, .seq #[.str (hs "pat") 694, .str (hs "STAR") 695, .str (hs "QUESTION_MARK") 696, .str (hs "res") 697, .str (hs "add") 698, .str (hs "i") 699, .str (hs "n") 700, .str (hs "c") 701, .str (hs "j") 702, .str (hs "stuff") 703, .str (hs "chunks") 704, .str (hs "k") 705, .str (hs "chunk") 706] 0, #[]⟩
noncomputable def ho201 (P : Params) : Obj := ⟨.type "tuple", none, .seq #[] 0, #[]⟩
noncomputable def ho202 (P : Params) : Obj := ⟨.none, none, .func ⟨hs "_translate", hs "_translate", hPs (hAt hW [28]), .stmts (hBd (hAt hW [28])), hSc (hAt hW [28]), 0, [], .none, .none, .none, .none, none, .none, .none, 0⟩, #[]⟩
noncomputable def ho203 (P : Params) : Obj := ⟨.type "code", none, .fields #[.str (hs "_translate") 691, .str (hs "_translate") 692, .str (hs "/claim/cut.py") 693, .int (221) 0, .int (3) 0, .int (0) 0, .int (0) 0, .int (3) 0, .ref 198, .bool true, .int (276) 0, .ref 199, .none, .ref 200, .ref 201, .ref 202, .int (707) 0, .int (221) 0, .str (hs "/claim/cut.py") 708], #[]⟩
noncomputable def ho204 (P : Params) : Obj := ⟨.type "function", none, .func ⟨hs "_translate", hs "_translate", hPs (hAt hW [28]), .stmts (hBd (hAt hW [28])), hSc (hAt hW [28]), 3, [], .none, .none, .none, .str (hs "cpy313.fnmatch") 689, none, .ref 203, .none, 0⟩, #[]⟩
noncomputable def ho205 (P : Params) : Obj := ⟨.type "tuple", none, .seq #[] 0, #[]⟩
noncomputable def ho206 (P : Params) : Obj := ⟨.none, none, .fields #[], #[]⟩
noncomputable def ho207 (P : Params) : Obj := ⟨.type "tuple", none, .seq #[.str (hs "part") 715, .str (hs "sign") 716, .str (hs "body") 717, .str (hs "barred") 718, .str (hs "k") 719, .str (hs "found") 720, .str (hs "low") 721, .str (hs "high") 722] 0, #[]⟩
noncomputable def ho208 (P : Params) : Obj := ⟨.type "tuple", none, .seq #[] 0, #[]⟩
noncomputable def ho209 (P : Params) : Obj := ⟨.none, none, .func ⟨hs "_law_one", hs "_law_one", hPs (hAt hW [30]), .stmts (hBd (hAt hW [30])), hSc (hAt hW [30]), 0, [], .none, .none, .none, .none, none, .none, .none, 0⟩, #[]⟩
noncomputable def ho210 (P : Params) : Obj := ⟨.type "code", none, .fields #[.str (hs "_law_one") 712, .str (hs "_law_one") 713, .str (hs "/claim/cut.py") 714, .int (284) 0, .int (2) 0, .int (0) 0, .int (0) 0, .int (3) 0, .ref 205, .bool true, .int (276) 0, .ref 206, .none, .ref 207, .ref 208, .ref 209, .int (723) 0, .int (284) 0, .str (hs "/claim/cut.py") 724], #[]⟩
noncomputable def ho211 (P : Params) : Obj := ⟨.type "function", none, .func ⟨hs "_law_one", hs "_law_one", hPs (hAt hW [30]), .stmts (hBd (hAt hW [30])), hSc (hAt hW [30]), 3, [], .none, .none, .none, .str (hs "law_dn0069_08") 710, none, .ref 210, .none, 0⟩, #[]⟩
noncomputable def ho212 (P : Params) : Obj := ⟨.type "tuple", none, .seq #[] 0, #[]⟩
noncomputable def ho213 (P : Params) : Obj := ⟨.none, none, .fields #[], #[]⟩
noncomputable def ho214 (P : Params) : Obj := ⟨.none, none, .func ⟨hs "_law_takes", hs "_law_takes", hPs (hAt hW [31]), .stmts (hBd (hAt hW [31])), hSc (hAt hW [31]), 0, [], .none, .none, .none, .none, none, .none, .none, 0⟩, #[]⟩
noncomputable def ho215 (P : Params) : Obj := ⟨.type "code", none, .fields #[.str (hs "_law_takes") 726, .str (hs "_law_takes") 727, .str (hs "/claim/cut.py") 728, .int (308) 0, .int (3) 0, .int (0) 0, .int (0) 0, .int (3) 0, .ref 212, .bool true, .int (276) 0, .ref 213, .none, .none, .none, .ref 214, .int (729) 0, .int (308) 0, .str (hs "/claim/cut.py") 730], #[]⟩
noncomputable def ho216 (P : Params) : Obj := ⟨.type "function", none, .func ⟨hs "_law_takes", hs "_law_takes", hPs (hAt hW [31]), .stmts (hBd (hAt hW [31])), hSc (hAt hW [31]), 3, [], .none, .none, .none, .str (hs "law_dn0069_08") 710, none, .ref 215, .none, 0⟩, #[]⟩
noncomputable def ho217 (P : Params) : Obj := ⟨.type "tuple", none, .seq #[] 0, #[]⟩
noncomputable def ho218 (P : Params) : Obj := ⟨.none, none, .fields #[], #[]⟩
noncomputable def ho219 (P : Params) : Obj := ⟨.none, none, .func ⟨hs "_law_quoted", hs "_law_quoted", hPs (hAt hW [32]), .stmts (hBd (hAt hW [32])), hSc (hAt hW [32]), 0, [], .none, .none, .none, .none, none, .none, .none, 0⟩, #[]⟩
noncomputable def ho220 (P : Params) : Obj := ⟨.type "code", none, .fields #[.str (hs "_law_quoted") 732, .str (hs "_law_quoted") 733, .str (hs "/claim/cut.py") 734, .int (316) 0, .int (1) 0, .int (0) 0, .int (0) 0, .int (3) 0, .ref 217, .bool true, .int (276) 0, .ref 218, .none, .none, .none, .ref 219, .int (735) 0, .int (316) 0, .str (hs "/claim/cut.py") 736], #[]⟩
noncomputable def ho221 (P : Params) : Obj := ⟨.type "function", none, .func ⟨hs "_law_quoted", hs "_law_quoted", hPs (hAt hW [32]), .stmts (hBd (hAt hW [32])), hSc (hAt hW [32]), 3, [], .none, .none, .none, .str (hs "law_dn0069_08") 710, none, .ref 220, .none, 0⟩, #[]⟩
noncomputable def ho222 (P : Params) : Obj := ⟨.type "tuple", none, .seq #[] 0, #[]⟩
noncomputable def ho223 (P : Params) : Obj := ⟨.none, none, .fields #[], #[]⟩
noncomputable def ho224 (P : Params) : Obj := ⟨.type "tuple", none, .seq #[.str (hs "number") 741, .str (hs "out") 742, .str (hs "left") 743] 0, #[]⟩
noncomputable def ho225 (P : Params) : Obj := ⟨.type "tuple", none, .seq #[] 0, #[]⟩
noncomputable def ho226 (P : Params) : Obj := ⟨.none, none, .func ⟨hs "_law_drawn", hs "_law_drawn", hPs (hAt hW [33]), .stmts (hBd (hAt hW [33])), hSc (hAt hW [33]), 0, [], .none, .none, .none, .none, none, .none, .none, 0⟩, #[]⟩
noncomputable def ho227 (P : Params) : Obj := ⟨.type "code", none, .fields #[.str (hs "_law_drawn") 738, .str (hs "_law_drawn") 739, .str (hs "/claim/cut.py") 740, .int (318) 0, .int (1) 0, .int (0) 0, .int (0) 0, .int (3) 0, .ref 222, .bool true, .int (276) 0, .ref 223, .none, .ref 224, .ref 225, .ref 226, .int (744) 0, .int (318) 0, .str (hs "/claim/cut.py") 745], #[]⟩
noncomputable def ho228 (P : Params) : Obj := ⟨.type "function", none, .func ⟨hs "_law_drawn", hs "_law_drawn", hPs (hAt hW [33]), .stmts (hBd (hAt hW [33])), hSc (hAt hW [33]), 3, [], .none, .none, .none, .str (hs "law_dn0069_08") 710, none, .ref 227, .none, 0⟩, #[]⟩
noncomputable def ho229 (P : Params) : Obj := ⟨.type "tuple", none, .seq #[] 0, #[]⟩
noncomputable def ho230 (P : Params) : Obj := ⟨.none, none, .fields #[], #[]⟩
noncomputable def ho231 (P : Params) : Obj := ⟨.type "tuple", none, .seq #[.str (hs "names") 750] 0, #[]⟩
noncomputable def ho232 (P : Params) : Obj := ⟨.type "tuple", none, .seq #[] 0, #[]⟩
noncomputable def ho233 (P : Params) : Obj := ⟨.none, none, .func ⟨hs "_law_told", hs "_law_told", hPs (hAt hW [34]), .stmts (hBd (hAt hW [34])), hSc (hAt hW [34]), 0, [], .none, .none, .none, .none, none, .none, .none, 0⟩, #[]⟩
noncomputable def ho234 (P : Params) : Obj := ⟨.type "code", none, .fields #[.str (hs "_law_told") 747, .str (hs "_law_told") 748, .str (hs "/claim/cut.py") 749, .int (325) 0, .int (1) 0, .int (0) 0, .int (0) 0, .int (3) 0, .ref 229, .bool true, .int (276) 0, .ref 230, .none, .ref 231, .ref 232, .ref 233, .int (751) 0, .int (325) 0, .str (hs "/claim/cut.py") 752], #[]⟩
noncomputable def ho235 (P : Params) : Obj := ⟨.type "function", none, .func ⟨hs "_law_told", hs "_law_told", hPs (hAt hW [34]), .stmts (hBd (hAt hW [34])), hSc (hAt hW [34]), 3, [], .none, .none, .none, .str (hs "law_dn0069_08") 710, none, .ref 234, .none, 0⟩, #[]⟩
noncomputable def ho236 (P : Params) : Obj := ⟨.type "tuple", none, .seq #[] 0, #[]⟩
noncomputable def ho237 (P : Params) : Obj := ⟨.none, none, .fields #[], #[]⟩
noncomputable def ho238 (P : Params) : Obj := ⟨.none, none, .func ⟨hs "law", hs "law", hPs (hAt hW [35]), .stmts (hBd (hAt hW [35])), hSc (hAt hW [35]), 0, [], .none, .none, .none, .none, none, .none, .none, 0⟩, #[]⟩
noncomputable def ho239 (P : Params) : Obj := ⟨.type "code", none, .fields #[.str (hs "law") 754, .str (hs "law") 755, .str (hs "/claim/cut.py") 756, .int (327) 0, .int (1) 0, .int (0) 0, .int (0) 0, .int (3) 0, .ref 236, .bool true, .int (276) 0, .ref 237, .none, .none, .none, .ref 238, .int (757) 0, .int (327) 0, .str (hs "/claim/cut.py") 758], #[]⟩
noncomputable def ho240 (P : Params) : Obj := ⟨.type "function", none, .func ⟨hs "law", hs "law", hPs (hAt hW [35]), .stmts (hBd (hAt hW [35])), hSc (hAt hW [35]), 3, [], .none, .none, .none, .str (hs "law_dn0069_08") 710, none, .ref 239, .none, 0⟩, #[]⟩
noncomputable def hp35 : Heap := ⟨Array.mk [boot_o_0 P, ho1 P, ho2 P, ho3xxx P, boot_o_4 P, boot_o_5 P, boot_o_6 P, boot_o_7 P, boot_o_8 P, boot_o_9 P, boot_o_10 P, ho11 P, ho12 P, ho13 P, ho14 P, ho15 P, ho16 P, ho17 P, ho18 P, ho19 P, ho20 P, ho21 P, ho22 P, ho23 P, ho24 P, ho25 P, ho26 P, ho27 P, ho28 P, ho29xx P, ho30 P, ho31 P, ho32 P, ho33 P, ho34 P, ho35 P, ho36 P, ho37 P, ho38 P, ho39 P, ho40 P, ho41 P, ho42 P, ho43 P, ho44 P, ho45 P, ho46 P, ho47 P, ho48 P, ho49 P, ho50 P, ho51 P, ho52 P, ho53 P, ho54 P, ho55 P, ho56 P, ho57 P, ho58 P, ho59 P, ho60 P, ho61 P, ho62 P, ho63 P, ho64 P, ho65 P, ho66 P, ho67 P, ho68 P, ho69 P, ho70 P, ho71 P, ho72 P, ho73 P, ho74 P, ho75 P, ho76 P, ho77 P, ho78 P, ho79 P, ho80 P, ho81 P, ho82 P, ho83 P, ho84 P, ho85 P, ho86 P, ho87 P, ho88 P, ho89 P, ho90 P, ho91 P, ho92 P, ho93 P, ho94 P, ho95 P, ho96 P, ho97 P, ho98 P, ho99 P, ho100 P, ho101 P, ho102 P, ho103 P, ho104 P, ho105 P, ho106 P, ho107 P, ho108 P, ho109 P, ho110 P, ho111 P, ho112 P, ho113 P, ho114 P, ho115 P, ho116 P, ho117 P, ho118 P, ho119 P, ho120 P, ho121 P, ho122 P, ho123 P, ho124 P, ho125 P, ho126 P, ho127 P, ho128 P, ho129 P, ho130 P, ho131 P, ho132 P, ho133 P, ho134 P, ho135 P, ho136 P, ho137 P, ho138 P, ho139 P, ho140 P, ho141 P, ho142 P, ho143 P, ho144 P, ho145 P, ho146 P, ho147 P, ho148 P, ho149 P, ho150 P, ho151 P, ho152 P, ho153 P, ho154 P, ho155 P, ho156 P, ho157 P, ho158 P, ho159 P, ho160 P, ho161 P, ho162 P, ho163 P, ho164 P, ho165 P, ho166 P, ho167 P, ho168 P, ho169 P, ho170 P, ho171 P, ho172 P, ho173 P, ho174 P, ho175 P, ho176 P, ho177 P, ho178 P, ho179 P, ho180 P, ho181 P, ho182 P, ho183 P, ho184 P, ho185 P, ho186 P, ho187 P, ho188 P, ho189 P, ho190 P, ho191 P, ho192 P, ho193 P, ho194 P, ho195 P, ho196 P, ho197 P, ho198 P, ho199 P, ho200 P, ho201 P, ho202 P, ho203 P, ho204 P, ho205 P, ho206 P, ho207 P, ho208 P, ho209 P, ho210 P, ho211 P, ho212 P, ho213 P, ho214 P, ho215 P, ho216 P, ho217 P, ho218 P, ho219 P, ho220 P, ho221 P, ho222 P, ho223 P, ho224 P, ho225 P, ho226 P, ho227 P, ho228 P, ho229 P, ho230 P, ho231 P, ho232 P, ho233 P, ho234 P, ho235 P, ho236 P, ho237 P, ho238 P, ho239 P, ho240 P], { }⟩
noncomputable def zk : Frag := [(2, ho2 P), (3, ho3xxx P), (110, ho110 P), (111, ho111 P), (117, ho117 P), (118, ho118 P), (131, ho131 P), (132, ho132 P), (138, ho138 P), (139, ho139 P), (145, ho145 P), (146, ho146 P), (152, ho152 P), (153, ho153 P), (159, ho159 P), (160, ho160 P), (166, ho166 P), (167, ho167 P), (168, ho168 P), (174, ho174 P), (175, ho175 P), (179, ho179 P), (180, ho180 P), (184, ho184 P), (185, ho185 P), (187, ho187 P), (196, ho196 P), (197, ho197 P), (199, ho199 P), (203, ho203 P), (204, ho204 P), (210, ho210 P), (211, ho211 P), (215, ho215 P), (216, ho216 P), (220, ho220 P), (221, ho221 P), (227, ho227 P), (228, ho228 P), (234, ho234 P), (235, ho235 P), (239, ho239 P), (240, ho240 P)]
noncomputable abbrev zas : List Addr := [2, 3, 110, 111, 117, 118, 131, 132, 138, 139, 145, 146, 152, 153, 159, 160, 166, 167, 168, 174, 175, 179, 180, 184, 185, 187, 196, 197, 199, 203, 204, 210, 211, 215, 216, 220, 221, 227, 228, 234, 235, 239, 240]
theorem zkeys (P : Params) : zas = (zk P).map (·.1) := rfl
noncomputable abbrev hPr : Program := PySem.Challenge.rw_dn0069_08.row.prog
noncomputable abbrev hB : List Stmt := behindTheImports hPr
noncomputable def hEnv : Env := { scope := hPr.main.scope, locals := mainNs, globals := mainNs, cells := [], code := PySem.Value.ref 30, frame := some 31 }
noncomputable abbrev hC : Code := .body hB hEnv
theorem hpre (w : World) (os : OsState) : topGo treeTable hPr w 28 (some (PySem.Value.ref 6)) 12 (⟨hp0 (w).params, Array.mk [], { }, 276, os⟩ : Shared) (topStub hPr) = some ((⟨hp_pre (w).params, Array.mk [], { }, 282, os⟩ : Shared), ⟨denote treeTable hC, hC, { line := 0, col := 0, endLine := 0, endCol := 0 }, [topFrame ({ line := 0, col := 0, endLine := 0, endCol := 0 } : Pos)]⟩) := by kernel_rfl
theorem hblock (w : World) (os : OsState) : segRun treeTable hPr w 28 (some (PySem.Value.ref 6)) 1 (0 + 1) (⟨hp_pre (w).params, Array.mk [], { }, 282, os⟩ : Shared) (blockOf hB hEnv hC { line := 0, col := 0, endLine := 0, endCol := 0 } [topFrame ({ line := 0, col := 0, endLine := 0, endCol := 0 } : Pos)]) = some (.next, (⟨hp_pre (w).params, Array.mk [], { }, 282, os⟩ : Shared), hC, { line := 0, col := 0, endLine := 0, endCol := 0 }) := by kernel_rfl
theorem hseg3 (w : World) : ∀ os : OsState, segRun treeTable hPr (w) 28 (some (PySem.Value.ref 6)) 1 (69 + 1) (⟨hp_pre (w).params, Array.mk [], { }, 282, os⟩ : Shared) (piecesOf ((hB.drop 0).take 3) hEnv hC { line := 0, col := 0, endLine := 0, endCol := 0 } [topFrame ({ line := 0, col := 0, endLine := 0, endCol := 0 } : Pos)]) = some (.next, (⟨hp3 (w).params, Array.mk [], { }, 300, os⟩ : Shared), hC, { line := 6, col := 0, endLine := 10, endCol := 12 }) := by
  intro os; kernel_rfl
theorem hseg4 (w : World) : ∀ os : OsState, segRun treeTable hPr (w) 28 (some (PySem.Value.ref 6)) 1 (9 + 1) (⟨hp3 (w).params, Array.mk [], { }, 300, os⟩ : Shared) (piecesOf ((hB.drop 3).take 1) hEnv hC { line := 6, col := 0, endLine := 10, endCol := 12 } [topFrame ({ line := 0, col := 0, endLine := 0, endCol := 0 } : Pos)]) = some (.next, (⟨hp4 (w).params, Array.mk [], { }, 302, os⟩ : Shared), hC, { line := 11, col := 0, endLine := 11, endCol := 8 }) := by
  intro os; kernel_rfl
theorem rows2 (r0 r1 : String) {P : World → Prop} (h00 : ∀ w : World, P ((w.withFollow r1 false).withFollow r0 false)) (h01 : ∀ w : World, P ((w.withFollow r1 true).withFollow r0 false)) (h10 : ∀ w : World, P ((w.withFollow r1 false).withFollow r0 true)) (h11 : ∀ w : World, P ((w.withFollow r1 true).withFollow r0 true)) : ∀ w, P w := (fun w => byRow2 r0 (P := fun w => P w) (fun w => byRow2 r1 (P := fun w => P (w.withFollow r0 false)) h00 h01 w) (fun w => byRow2 r1 (P := fun w => P (w.withFollow r0 true)) h10 h11 w) w)
noncomputable abbrev hS35 (w : World) : Prop := ∀ os : OsState, segRun treeTable hPr (w) 28 (some (PySem.Value.ref 6)) 1 (2542 + 1) (⟨hp4 (w).params, Array.mk [], { }, 302, os⟩ : Shared) (piecesOf ((hB.drop 4).take 31) hEnv hC { line := 11, col := 0, endLine := 11, endCol := 8 } [topFrame ({ line := 0, col := 0, endLine := 0, endCol := 0 } : Pos)]) = some (.next, (⟨hp35 (w).params, Array.mk [], { }, 760, os⟩ : Shared), hC, { line := 327, col := 0, endLine := 366, endCol := 15 })
theorem zjU (w : World) : hS35 (World.withFollow (World.withFollow w "special-get-raises" false) "comprehension-iter-twice" false) := by
  intro os; kernel_rfl
theorem zjT (w : World) : hS35 (World.withFollow (World.withFollow w "special-get-raises" true) "comprehension-iter-twice" false) := by
  intro os; kernel_rfl
theorem zjS (w : World) : hS35 (World.withFollow (World.withFollow w "special-get-raises" false) "comprehension-iter-twice" true) := by
  intro os; kernel_rfl
theorem zjR (w : World) : hS35 (World.withFollow (World.withFollow w "special-get-raises" true) "comprehension-iter-twice" true) := by
  intro os; kernel_rfl
theorem hseg35 (w : World) : ∀ os : OsState, segRun treeTable hPr (w) 28 (some (PySem.Value.ref 6)) 1 (2542 + 1) (⟨hp4 (w).params, Array.mk [], { }, 302, os⟩ : Shared) (piecesOf ((hB.drop 4).take 31) hEnv hC { line := 11, col := 0, endLine := 11, endCol := 8 } [topFrame ({ line := 0, col := 0, endLine := 0, endCol := 0 } : Pos)]) = some (.next, (⟨hp35 (w).params, Array.mk [], { }, 760, os⟩ : Shared), hC, { line := 327, col := 0, endLine := 366, endCol := 15 }) := rows2 "comprehension-iter-twice" "special-get-raises" (P := hS35) zjU zjT zjS zjR w
theorem hfin (w : World) (os : OsState) : topRun treeTable hPr w 28 (some (PySem.Value.ref 6)) (1 + 1) (⟨hp35 (w).params, Array.mk [], { }, 760, os⟩ : Shared) (restOf [] hEnv hC { line := 327, col := 0, endLine := 366, endCol := 15 } [topFrame ({ line := 0, col := 0, endLine := 0, endCol := 0 } : Pos)]) = some (⟨hp35 (w).params, Array.mk [], { }, 760, os⟩ : Shared) := by kernel_rfl
theorem hcat : hB = (((hB.drop 0).take 3) ++ (((hB.drop 3).take 1) ++ (((hB.drop 4).take 31) ++ []))) := by kernel_rfl
theorem hrun (w : World) (os : OsState) : topRun treeTable hPr w 28 (some (PySem.Value.ref 6)) (12 + ((0 + 1) + ((69 + 1) + ((9 + 1) + ((2542 + 1) + (1 + 1)))))) (⟨hp0 (w).params, Array.mk [], { }, 276, os⟩ : Shared) (topStub hPr) = some (⟨hp35 (w).params, Array.mk [], { }, 760, os⟩ : Shared) := by
  have k := (piece_app (hseg3 w os) (piece_app (hseg4 w os) (piece_app (hseg35 w os) (hfin w os))))
  rw [← hcat] at k
  exact go_top (hpre w os) (piece_block (hblock w os) k)
theorem hsize (w : World) : ((hp0 w.params).isNs mainGlobals && (Array.mk [] : Array GenState).size == 0, (hp0 w.params).objs.size, (hp0 w.params).nsMap mainGlobals "__annotations__") = (true, 28, (some (PySem.Value.ref 6) : Option PySem.Value)) := by kernel_rfl
theorem hlooks (w : World) : (fun os => ((staticsOk (importedModules hPr.main.body) (hp0 w.params) (hp35 w.params) && namesBound hPr (hp35 w.params) && gensDone (⟨hp35 (w).params, Array.mk [], { }, 760, os⟩ : Shared) && laidKept (hp0 w.params) (hp35 w.params)), openSeen view08 [PySem.Str.ofString "relpath", PySem.Str.ofString "_twin_re_1", PySem.Str.ofString "_special_chars_map"] (importedModules hPr.main.body) (fun s => xlAt view08 [] s && recOk (RowW.records PySem.Challenge.rw_dn0069_08.row.toRowW) s) true (⟨hp35 (w).params, Array.mk [], { }, 760, os⟩ : Shared), obsZ zas (⟨hp35 (w).params, Array.mk [], { }, 760, os⟩ : Shared))) = fun _ => (true, openGood view08 [PySem.Str.ofString "relpath", PySem.Str.ofString "_twin_re_1", PySem.Str.ofString "_special_chars_map"], valZ zk 241 760 w) := by kernel_rfl
theorem hopen (w : World) : (fencedOpening treeTable hPr w 5366).map (fun s => (s.heap, s.gens, s.drawn, s.toks)) = some (hp0 w.params, Array.mk [], { }, 276) := by kernel_rfl
theorem said08 : PySem.Challenge.rw_dn0069_08.wellSaid = true := by
  kernel_rfl
theorem hleft : LeftO hPr view08 [PySem.Str.ofString "relpath", PySem.Str.ofString "_twin_re_1", PySem.Str.ofString "_special_chars_map"] (fun s => xlAt view08 [] s && recOk (RowW.records PySem.Challenge.rw_dn0069_08.row.toRowW) s) (obsZ zas) (valZ zk 241 760) 5366 := LeftO.of_pieces (H₀ := hp0) (H₁ := hp35) (gs₀ := Array.mk []) (gs₁ := Array.mk []) (d₀ := { }) (d₁ := { }) (k₀ := 276) (k₁ := 760) (m₀ := 28) (ann := some (PySem.Value.ref 6)) (M := (12 + ((0 + 1) + ((69 + 1) + ((9 + 1) + ((2542 + 1) + (1 + 1))))))) hopen hsize hrun (by kernel_rfl) hlooks
end Mine
end H08x
section
open PySem
namespace Mine
noncomputable abbrev lobj (vs : Array Value) (n : Nat) : Obj := { cls := .type "list", data := .seq vs n }
noncomputable abbrev tobj (vs : Array Value) (n : Nat) : Obj := { cls := .type "tuple", data := .seq vs n }
noncomputable abbrev appObj (a : Addr) : Obj := { cls := .type "builtin_function_or_method", data := .fields #[.builtin "list.append", .ref a] }
theorem zdv : builtinKind "issubclass.nested" = none := by decide +kernel
theorem zc4 : plainId "issubclass.nested" = true := by decide +kernel
theorem zcW (a b c : Value) : argsOk "issubclass.nested" ⟨[a, b, c], []⟩ := by unfold argsOk; kernel_rfl
theorem zgb : isSubtype (.type "str") (.type "str") = pure true := by rw [isSubtype_type]; kernel_rfl
section
variable {prog : Program} {w : World} {A : Around} {E : Value → Shared → Prop}
theorem zdS (dep : Int) (tk : Tok) : Meets (Builtin.«issubclass.nested» ⟨[.type "str", .type "str", .int dep tk], []⟩) (fun _ R s => R (.ok (.ret (.bool true))) s) :=
  .of_wp fun prog w A R s h => by
    obtain ⟨hh, g, d, t, os⟩ := s
    have f1 := zgb
    have f2 : typeOf (.type "str") = pure (.type "type") := rfl
    repeat (any_goals (first | assumption | (rw [f1]) | wp_step))
    all_goals exact ⟨_, rfl, h⟩
theorem zdc {tp : Addr} {c2 : Value} {n : Nat} {tk : Tok} {s : Shared} {Q : Fin → Shared → Prop} (htp : s.heap.get? tp = some { cls := .type "tuple", data := .seq [Value.type "str", c2].toArray n })
    (hq : ∀ tk', Q (.done (.ret (.bool true))) { s with toks := tk' }) : wpAny (model prog w) A (Builtin.«issubclass.nested» ⟨[.type "str", .ref tp, .int 0 tk], []⟩) Q E s := by
  obtain ⟨h, g, d, t, os⟩ := s
  have hT2 : (⟨h, g, d, t, os⟩ : Shared).TypeIs (.ref tp) "tuple" := ⟨_, htp, rfl⟩
  have f1 := F.isi_sub_tuple
  repeat (any_goals (first | assumption | ((with_reducible show wpAny _ _ (call (Value.builtin "issubclass.nested") _ _) _ _ _); refine call_function_meets zdv zc4 F.entry_issubclass_nested (zcW _ _ _) (zdS _ _) ?_) | wp_step))
  exact hq _
theorem zdT {tp : Addr} {c2 : Value} {n : Nat} {s : Shared} {Q : Value → Shared → Prop} (htp : s.heap.get? tp = some { cls := .type "tuple", data := .seq [Value.type "str", c2].toArray n })
    (hq : ∀ tk', Q (.bool true) { s with toks := tk' }) : wpAny (model prog w) A (call (.builtin "issubclass") [.type "str", .ref tp]) Q E s := by
  have g : Meets (Builtin.«issubclass» ⟨[.type "str", .ref tp], []⟩) (fun _ R s => s.heap.get? tp = some { cls := .type "tuple", data := .seq [Value.type "str", c2].toArray n } ∧ ∀ tk', R (.ok (.ret (.bool true))) { s with toks := tk' }) :=
    fun _ _ _ _ _ hs => PyProof.Rows.issubclass_outer (zdc hs.1 fun tk' => hs.2 tk')
  exact PyProof.Rows.call_issubclass g ⟨htp, fun tk' => hq tk'⟩
end
theorem zgc : isSubtype (.type "str") (.type "list") = pure false := by rw [isSubtype_type]; kernel_rfl
theorem zfq : isSubtype (.type "str") (.type "tuple") = pure false := by rw [isSubtype_type]; kernel_rfl
theorem zeJ : isSubtype (.type "list") (.type "list") = pure true := by rw [isSubtype_type]; kernel_rfl
section
variable {prog : Program} {w : World} {A : Around} {E : Value → Shared → Prop}
theorem zdd {x : Str} {u : Tok} {T : String} (hne : (Value.type "str" == Value.type T) = false) (hty : typeOf (.type T) = pure (.type "type")) (hsub : isSubtype (.type "str") (.type T) = pure false) (dep : Int) (tk : Tok) :
    Meets (Builtin.«isinstance.nested» ⟨[.str x u, .type T, .int dep tk], []⟩) (fun _ R s => ∀ tk', R (.ok (.ret (.bool false))) { s with toks := tk' }) :=
  .of_wp fun prog w A R s h => by
    obtain ⟨hh, g, d, t, os⟩ := s
    exact isinstance_nested_false_str hne hty hsub ⟨_, rfl, h _⟩
theorem zfO {a : Addr} {vs : Array Value} {n : Nat} (dep : Int) (tk : Tok) :
    Meets (Builtin.«isinstance.nested» ⟨[.ref a, .type "list", .int dep tk], []⟩) (fun _ R s => s.heap.get? a = some (lobj vs n) ∧ ∀ tk', R (.ok (.ret (.bool true))) { s with toks := tk' }) :=
  .of_wp fun prog w A R s h => by
    obtain ⟨hh, g, d, t, os⟩ := s
    obtain ⟨hl, h⟩ := h
    have hT : (⟨hh, g, d, t, os⟩ : Shared).TypeIs (.ref a) "list" := ⟨_, hl, rfl⟩
    refine isinstance_nested_true rfl hT rfl zeJ ⟨_, rfl, h _⟩
set_option maxHeartbeats 4000000 in
theorem zfN {x : Str} {u : Tok} {tp : Addr} {n : Nat} {tk : Tok} {s : Shared} {Q : Fin → Shared → Prop} (htp : s.heap.get? tp = some { cls := .type "tuple", data := .seq [Value.type "list", Value.type "tuple"].toArray n })
    (hq : ∀ tk', Q (.done (.ret (.bool false))) { s with toks := tk' }) : wpAny (model prog w) A (Builtin.«isinstance.nested» ⟨[.str x u, .ref tp, .int 0 tk], []⟩) Q E s := by
  obtain ⟨h, g, d, t, os⟩ := s
  have hT2 : (⟨h, g, d, t, os⟩ : Shared).TypeIs (.ref tp) "tuple" := ⟨_, htp, rfl⟩
  have hx : ∀ t', (⟨h, g, d, t', os⟩ : Shared).TypeIs (.str x u) "str" := fun _ => rfl
  have f1 := F.isi_sub_tuple
  have k1 := fun tk => zdd (x := x) (u := u) (T := "list") (by decide) rfl zgc 1 tk
  have k2 := fun tk => zdd (x := x) (u := u) (T := "tuple") (by decide) rfl zfq 1 tk
  repeat (any_goals (first | assumption | exact hx _ | ((with_reducible show wpAny _ _ (call (Value.builtin "isinstance.nested") _ _) _ _ _); refine call_function_meets F.kind_isinstance_nested F.plain_isinstance_nested F.entry_isinstance_nested (F.args_isinstance_nested_3 _ _ _) (by first | exact k1 _ | exact k2 _) (fun tk' => ?_)) | wp_step))
  all_goals exact hq _
theorem zeS {a : Addr} {vs : Array Value} {k : Nat} {tp : Addr} {n : Nat} {c2 : Value} {tk : Tok} {s : Shared} {Q : Fin → Shared → Prop} (hl : s.heap.get? a = some (lobj vs k)) (htp : s.heap.get? tp = some { cls := .type "tuple", data := .seq [Value.type "list", c2].toArray n })
    (hq : ∀ tk', Q (.done (.ret (.bool true))) { s with toks := tk' }) : wpAny (model prog w) A (Builtin.«isinstance.nested» ⟨[.ref a, .ref tp, .int 0 tk], []⟩) Q E s := by
  obtain ⟨h, g, d, t, os⟩ := s
  have hT2 : (⟨h, g, d, t, os⟩ : Shared).TypeIs (.ref tp) "tuple" := ⟨_, htp, rfl⟩
  have hx : ∀ t', (⟨h, g, d, t', os⟩ : Shared).TypeIs (.ref a) "list" := fun _ => ⟨_, hl, rfl⟩
  have f1 := F.isi_sub_tuple
  have k1 := fun tk => zfO (a := a) (vs := vs) (n := k) 1 tk
  repeat (any_goals (first | assumption | exact hx _ | ((with_reducible show wpAny _ _ (call (Value.builtin "isinstance.nested") _ _) _ _ _); refine call_function_meets F.kind_isinstance_nested F.plain_isinstance_nested F.entry_isinstance_nested (F.args_isinstance_nested_3 _ _ _) (k1 _) ⟨hl, fun tk' => ?_⟩) | wp_step))
  all_goals exact hq _
theorem zgJ {x : Str} {u : Tok} {tp : Addr} {n : Nat} {s : Shared} {Q : Value → Shared → Prop} (htp : s.heap.get? tp = some { cls := .type "tuple", data := .seq [Value.type "list", Value.type "tuple"].toArray n })
    (hq : ∀ tk', Q (.bool false) { s with toks := tk' }) : wpAny (model prog w) A (call (.builtin "isinstance") [.str x u, .ref tp]) Q E s := by
  have g : Meets (Builtin.«isinstance» ⟨[.str x u, .ref tp], []⟩) (fun _ R s => s.heap.get? tp = some { cls := .type "tuple", data := .seq [Value.type "list", Value.type "tuple"].toArray n } ∧ ∀ tk', R (.ok (.ret (.bool false))) { s with toks := tk' }) :=
    fun _ _ _ _ s hs => isinstance_outer (zfN hs.1 fun tk' => hs.2 tk') (Shared.TypeIs.not_mainsLoader (T := "str") (s := s) rfl)
  exact call_isinstance g ⟨htp, fun tk' => hq tk'⟩
theorem zfV {a : Addr} {vs : Array Value} {k : Nat} {tp : Addr} {n : Nat} {c2 : Value} {s : Shared} {Q : Value → Shared → Prop} (hl : s.heap.get? a = some (lobj vs k)) (htp : s.heap.get? tp = some { cls := .type "tuple", data := .seq [Value.type "list", c2].toArray n })
    (hq : ∀ tk', Q (.bool true) { s with toks := tk' }) : wpAny (model prog w) A (call (.builtin "isinstance") [.ref a, .ref tp]) Q E s := by
  have g : Meets (Builtin.«isinstance» ⟨[.ref a, .ref tp], []⟩) (fun _ R s => s.heap.get? a = some (lobj vs k) ∧ s.heap.get? tp = some { cls := .type "tuple", data := .seq [Value.type "list", c2].toArray n } ∧ ∀ tk', R (.ok (.ret (.bool true))) { s with toks := tk' }) :=
    fun _ _ _ _ s hs => isinstance_outer (zeS hs.1 hs.2.1 fun tk' => hs.2.2 tk') (Shared.TypeIs.not_mainsLoader (T := "list") (s := s) ⟨_, hs.1, rfl⟩)
  exact call_isinstance g ⟨hl, htp, fun tk' => hq tk'⟩
end
section
variable {prog : Program} {w : World} {A : Around} {E : Value → Shared → Prop} {s : Shared}
end
theorem slot_md_get : PySem.Slot "method_descriptor" "__get__" "method_descriptor.__get__" :=
  PySem.Slot.of (owner := "method_descriptor") (n := "__get__") (by rw [typeLookup_type, builtinLookup_eq_fast]; kernel_rfl) (by decide +kernel) (by decide +kernel) (by decide +kernel)
    (by first | exact .inl (by decide +kernel) | exact .inr (by decide +kernel)) (by rw [isSubtype_type]; kernel_rfl)
theorem zgE : entryFor table "method_descriptor.__get__" = some Builtin.«method_descriptor.__get__» := entryFor_of_tree (by kernel_rfl)
theorem zfZ (a b c : Value) : argsOk "method_descriptor.__get__" ⟨[a, b, c], []⟩ := by unfold argsOk; kernel_rfl
theorem zjF : typeLookup (.type "method_descriptor") "__set__" = pure none := by rw [typeLookup_type, builtinLookup_eq_fast]; kernel_rfl
theorem zgq : typeLookup (.type "method_descriptor") "__delete__" = pure none := by rw [typeLookup_type, builtinLookup_eq_fast]; kernel_rfl
theorem zhj : builtinKind "list.append" = some .method := by decide +kernel
theorem zek : isSubtype (.type "list") (.type "module") = pure false := by rw [isSubtype_type]; kernel_rfl
section
variable {prog : Program} {w : World} {A : Around} {E : Value → Shared → Prop} {s : Shared}
theorem zho {l : Addr} {items : Array Value} {n : Nat} {x : Value} {Q : Unit → Shared → Prop} (hl : s.heap.get? l = some (lobj items n)) (h : Q () s) : wpAny (model prog w) A (checkBoundCall "list.append" ⟨[.ref l, x], []⟩) Q E s := by
  obtain ⟨hp, g, d, tk, os⟩ := s
  have hT : (⟨hp, g, d, tk, os⟩ : Shared).TypeIs (.ref l) "list" := ⟨_, hl, rfl⟩
  have f1 := zek
  have f2 := zhj
  unfold checkBoundCall
  repeat (any_goals (first | assumption | wp_step))
theorem ziL {b l : Addr} {items : Array Value} {n : Nat} {x : Value} {R : Result → Shared → Prop} (hb : s.heap.get? b = some (appObj l)) (hl : s.heap.get? l = some (lobj items n))
    (h : codeAny (model prog w) A (.builtin "list.append" ⟨[.ref l, x], []⟩) R s) : codeAny (model prog w) A (.call (.ref b) ⟨[x], []⟩) R s := by
  refine codeAny_of_tree ?_
  show wpAny _ _ (callAny (.ref b) _) _ _ _
  unfold callAny
  refine wpAny_bind (wpAny_load hb ?_)
  refine wpAny_bind (zho hl ?_)
  exact wpAny_pure ⟨Code.quiet_builtin _ (by decide +kernel), h⟩
theorem zhs {l : Addr} {items : Array Value} {n : Nat} {x : Value} {R : Result → Shared → Prop} (hl : s.heap.get? l = some (lobj items n)) (hsz : items.size ≤ sizeLine)
    (h : R (.ok (.ret .none)) { s with heap := s.heap.update l (Obj.mapSeq fun y => y.push x) }) : codeAny (model prog w) A (.builtin "list.append" ⟨[.ref l, x], []⟩) R s := by
  refine codeAny_builtin F.entry_list_append ?_
  exact list_append l items n x hsz prog w _ _ s ⟨hl, h⟩
theorem zgr {b l : Addr} {Q : Keeper → Shared → Prop} (hb : s.heap.get? b = some (appObj l)) (h : Q .machine s) : wpAny (model prog w) A (keeperOf (.ref b)) Q E s := by
  unfold keeperOf
  exact wpAny_bind (wpAny_load hb (wpAny_pure h))
theorem zeY {b l : Addr} {pos : Pos} {args : List (Bool × Sem Value)} {Q : Value → Shared → Prop} (hplain : args.any (·.1) = false)
    (h : wpAny (model prog w) A (evalArgs (.ref b) true args []) (fun a s₁ => s₁.heap.get? b = some (appObj l) ∧ wpAny (model prog w) A (call (.ref b) a.pos a.kw) Q E s₁) E s) :
    wpAny (model prog w) A (callWith pos (.ref b) [] args []) Q E s := by
  unfold callWith
  refine wpAny_bind (wpAny_holding (wpAny_mono h (fun a s₁ h₁ => wpAny_bind (wpAny_standAt ?_)) fun _ _ x => x))
  simp only [hplain, List.any_nil, Bool.or_false]
  refine wpAny_bind (zgr h₁.1 ?_)
  exact wpAny_bind (wpAny_mono h₁.2 (fun r s₂ hr => wpAny_bind (wpAny_holding (wpAny_point (wpAny_pure hr)))) fun _ _ x => x)
theorem sub_list_list : isSubtype (.type "list") (.type "list") = pure true := by rw [isSubtype_type]; kernel_rfl
theorem zgp (l : Addr) (items : Array Value) (n : Nat) :
    Meets (Builtin.«method_descriptor.__get__» ⟨[.builtin "list.append", .ref l, .type "list"], []⟩) (fun A R s => s.heap.get? l = some (lobj items n) ∧ R (.ok (.ret (.ref s.heap.objs.size))) { s with heap := s.heap.push (appObj l) }) :=
  Meets.of_wp fun prog w A R s hs => by
    obtain ⟨hp, g, d, tk, os⟩ := s
    obtain ⟨hl, h⟩ := hs
    have hT : (⟨hp, g, d, tk, os⟩ : Shared).TypeIs (.ref l) "list" := ⟨_, hl, rfl⟩
    have f1 := sub_list_list
    have f2 : (Manifest.toldItsClass.contains "list.append") = false := by decide +kernel
    unfold Builtin.«method_descriptor.__get__»
    simp only [f2]
    repeat (any_goals (first | assumption | wp_step))
    rw [show (".".intercalate ("list.append".cutAt '.').dropLast) = "list" by decide +kernel]
    rw [f1]
    refine wpAny_pure ?_
    rw [if_neg (by decide)]
    refine wpAny_pure ?_
    show wpAny _ _ (newFields "builtin_function_or_method" [.builtin "list.append", .ref l] >>= fun v => ret v) _ _ _
    exact wpAny_bind (wpAny_newObj_type (wpAny_pure ⟨_, rfl, h⟩))
theorem zhr : (["__module__", "__name__", "__qualname__", "__doc__", "__annotations__"] : List Str).contains "append" = false := by decide +kernel
theorem zbW (l : Addr) (items : Array Value) (n : Nat) (u : Tok) :
    Meets (Builtin.«object.__getattribute__» ⟨[.ref l, .str "append" u], []⟩) (fun A R s => s.heap.get? l = some (lobj items n) ∧ R (.ok (.ret (.ref s.heap.objs.size))) { s with heap := s.heap.push (appObj l) }) :=
  Meets.of_wp fun prog w A R s hs => by
    obtain ⟨hp, g, d, tk, os⟩ := s
    obtain ⟨hl, h⟩ := hs
    have hT : (⟨hp, g, d, tk, os⟩ : Shared).TypeIs (.ref l) "list" := ⟨_, hl, rfl⟩
    have hM : (⟨hp, g, d, tk, os⟩ : Shared).TypeIs (.builtin "list.append") "method_descriptor" := F.type_list_append
    have f1 := F.slot_list_append.lookup
    have f2 := slot_md_get.lookup
    have f3 := zjF
    have f4 := zgq
    have f5 := zhr
    unfold Builtin.«object.__getattribute__»
    repeat (any_goals (first | assumption | ((with_reducible show wpAny _ _ (call (Value.builtin "method_descriptor.__get__") _ _) _ _ _); refine call_meets slot_md_get hM zgE (zfZ _ _ _) (zgp l items n) ⟨hl, ?_⟩) | wp_step))
    exact wpAny_pure ⟨_, rfl, h⟩
theorem zeT {l : Addr} {items : Array Value} {n : Nat} {Q : Value → Shared → Prop} (hl : s.heap.get? l = some (lobj items n)) (h : Q (.ref s.heap.objs.size) { s with heap := s.heap.push (appObj l), toks := s.toks + 1 }) :
    wpAny (model prog w) A (getAttr (.ref l) "append" true) Q E s := by
  obtain ⟨hp, g, d, tk, os⟩ := s
  have hT : ∀ tk', (⟨hp, g, d, tk', os⟩ : Shared).TypeIs (.ref l) "list" := fun _ => ⟨_, hl, rfl⟩
  have f3 := F.slot_list_getattribute.lookup
  have f4 := F.slot_list_getattribute.bind (.ref l)
  have f5 := am_list_getattr_none
  unfold getAttr getAttrBy
  repeat (any_goals (first | assumption | exact hT _ | ((with_reducible show wpAny _ _ (call (Value.builtin "list.__getattribute__") _ _) _ _ _); refine call_meets F.slot_list_getattribute (hT _) am_entry_list_getattribute (F.args_list_getattribute_2 _ _) (zbW l items n _) ⟨hl, ?_⟩) | wp_step))
  show wpAny _ _ (handedOut (.ref _)) _ _ _
  exact wpAny_pure h
end
theorem zeK : isSubtype (.type "KeyError") (.type "LookupError") = pure true := by rw [isSubtype_type]; kernel_rfl
section
variable {prog : Program} {w : World} {A : Around} {E : Value → Shared → Prop} {s : Shared}
theorem ziU {d : Addr} {f : Int → Option Value} {c : Nat} {t : PySem.Str} {u : Tok} {Q : Builtin.Str.Mapped → Shared → Prop} (hm : s.heap.MapOf (intKind prog w) d f) (hv : f (c : Int) = some (.str t u)) (h : ∀ k, Q (.text t) { s with toks := k }) :
    wpAny (model prog w) A (Builtin.Str.tableLookup (.ref d) c) Q E s := by
  unfold Builtin.Str.tableLookup
  refine wpAny_bind (wpAny_attempt (wpAny_bind (wpAny_mkInt (wpAny_getItem_of (knd := intKind prog w) (k := (c : Int)) (v := .str t u) (by simp [intKind, Value.isInt]) hm hv ?_))))
  obtain ⟨hh, g, dd, tk, os⟩ := s
  repeat (any_goals (first | assumption | wp_step))
  exact h _
theorem zic {d : Addr} {f : Int → Option Value} {c : Nat} {Q : Builtin.Str.Mapped → Shared → Prop} (hh : A.handled = none) (hm : s.heap.MapOf (intKind prog w) d f) (hd : (d == sysModules) = false) (hv : f (c : Int) = none)
    (h : ∀ h' k, (∀ b o, s.heap.get? b = some o → h'.get? b = some o) → Q .keep { s with heap := h', toks := k }) :
    wpAny (model prog w) A (Builtin.Str.tableLookup (.ref d) c) Q E s := by
  unfold Builtin.Str.tableLookup
  refine wpAny_bind (wpAny_attempt (wpAny_bind (wpAny_mkInt (wpAny_getItem_missing_of (knd := intKind prog w) (k := (c : Int)) (by simp [intKind, Value.isInt]) hd hh hm hv fun h' e ne => ?_))))
  obtain ⟨ob, t, g1, g2, g3⟩ := ne.there
  show wpAny _ _ (do if ← isInstance (.ref e) (.type "LookupError") then rule "str.translate.not-in-table"; pure Builtin.Str.Mapped.keep else throw (.ref e)) _ _ _
  refine wpAny_bind (wpAny_isInstance (T := "KeyError") (b := true) ⟨ob, g1, g2⟩ zeK ?_)
  rw [if_pos rfl]
  exact wpAny_bind (wpAny_rule (wpAny_pure (h _ _ ne.keeps)))
set_option maxHeartbeats 2000000 in
theorem zfo {d : Addr} {f : Int → Option Value} {c x : Nat} {t u : Tok} (hc : c < 128) :
    MeetsIn prog w (Builtin.«str.translate» ⟨[.str ⟨#[c]⟩ t, .ref d], []⟩) (fun A R s => (s.heap.MapOf (intKind prog w) d f ∧ f (c : Int) = some (.str ⟨#[92, x]⟩ u)) ∧ ∀ k k', R (.ok (.ret (.str ⟨#[92, x]⟩ k))) { s with toks := k' }) :=
  .of_wp fun A R s hs => by
    obtain ⟨hh, g, dd, tk, os⟩ := s
    obtain ⟨⟨hm, hv⟩, h⟩ := hs
    have hc' : decide (c < 128) = true := by simpa using hc
    repeat (any_goals (first | assumption | ((with_reducible show wpAny _ _ (Builtin.Str.tableLookup _ _) _ _ _); refine ziU hm hv fun k => ?_) | wp_step))
    exact ⟨_, rfl, h _ _⟩
set_option maxHeartbeats 2000000 in
theorem zeI {d : Addr} {f : Int → Option Value} {c : Nat} {t : Tok} (hc : c < 128) (hd : (d == sysModules) = false) :
    MeetsIn prog w (Builtin.«str.translate» ⟨[.str ⟨#[c]⟩ t, .ref d], []⟩) (fun A R s => (s.heap.MapOf (intKind prog w) d f ∧ f (c : Int) = none ∧ A.handled = none) ∧ ∀ h' k k', (∀ b o, s.heap.get? b = some o → h'.get? b = some o) → R (.ok (.ret (.str ⟨#[c]⟩ k))) { s with heap := h', toks := k' }) :=
  .of_wp fun A R s hs => by
    obtain ⟨hh, g, dd, tk, os⟩ := s
    obtain ⟨⟨hm, hv, hA⟩, h⟩ := hs
    have hc' : decide (c < 128) = true := by simpa using hc
    repeat (any_goals (first | assumption | ((with_reducible show wpAny _ _ (Builtin.Str.tableLookup _ _) _ _ _); refine zic hA hm hd hv fun h' k hk => ?_) | wp_step))
    exact ⟨_, rfl, h _ _ _ hk⟩
end
end Mine
end
section MpZ0x
open PySem
namespace Mine
open PySem.Builtin PySem.Builtin.Re
noncomputable def reCode : Array Nat := #[14, 14, 4, 1, 1, 9, 0, 64, 0, 1342177280, 0, 0, 0, 0, 0, 17, 0, 13, 11, 9, 0, 64, 0, 1342177280, 0, 0, 0, 0, 0, 17, 1, 1]
theorem zb9 {m : Sre.M} (h : m.outcome.isSome = true) : ∀ n, m.runFor n = m
  | 0 => rfl
  | n + 1 => by unfold Sre.M.runFor; rw [if_pos h]
theorem ze5 : ∀ (a b : Nat) (m : Sre.M), m.runFor (a + b) = (m.runFor a).runFor b
  | 0, b, m => by rw [Nat.zero_add]; rfl
  | a + 1, b, m => by
    rw [Nat.succ_add]
    by_cases h : m.outcome.isSome = true
    · rw [zb9 h, zb9 h, zb9 h]
    · have e1 : ∀ n, Sre.M.runFor (n + 1) m = Sre.M.runFor n m.step := fun n => by
        conv => lhs; unfold Sre.M.runFor
        rw [if_neg h]
      show Sre.M.runFor (a + b + 1) m = _
      rw [e1, e1]
      exact ze5 a b m.step
section
variable {prog : Program} {w : World} {A : Around} {E : Value → Shared → Prop} {s : Shared}
theorem zh2 : ∀ (k t : Nat) (m : Sre.M), (m.runFor (4 * (k + 1))).outcome.isSome = true → k < t → ∀ {Q : Sre.M → Shared → Prop}, Q (m.runFor (4 * (k + 1))) s → wpAny (model prog w) A (reDrive t m) Q E s
  | k, 0, m, _, h, _, _ => absurd h (Nat.not_lt_zero _)
  | 0, t + 1, m, ho, h, Q, hQ => by
    unfold reDrive
    show wpAny _ _ (if (m.runFor 4).outcome.isSome = true then pure (m.runFor 4) else _) _ _ _
    rw [if_pos ho]
    exact wpAny_pure hQ
  | k + 1, t + 1, m, ho, h, Q, hQ => by
    unfold reDrive
    have e : m.runFor (4 * (k + 1 + 1)) = (m.runFor 4).runFor (4 * (k + 1)) := by
      rw [show 4 * (k + 1 + 1) = 4 + 4 * (k + 1) from Nat.add_comm (4 * (k + 1)) 4]
      exact ze5 4 _ m
    rw [e] at ho hQ
    show wpAny _ _ (if (m.runFor 4).outcome.isSome = true then pure (m.runFor 4) else (do rule "sre.turn"; reDrive t (m.runFor 4))) _ _ _
    by_cases h4 : (m.runFor 4).outcome.isSome = true
    · rw [if_pos h4]
      rw [zb9 h4] at hQ
      exact wpAny_pure hQ
    · rw [if_neg h4]
      exact wpAny_bind (wpAny_rule (zh2 k t (m.runFor 4) ho (Nat.lt_of_succ_lt_succ h) hQ))
theorem zg3 (sn : Sre.Seen) : ∀ (l : List Nat) {Q : PUnit → Shared → Prop}, Q ⟨⟩ s → wpAny (model prog w) A (forIn l PUnit.unit fun i _ => do
      if sn.has i then
        rule (Sre.names.getD i "")
        pure (ForInStep.yield PUnit.unit)
      else pure (ForInStep.yield PUnit.unit)) Q E s
  | [], Q, h => by rw [List.forIn_nil]; exact wpAny_pure h
  | i :: l, Q, h => by
    rw [List.forIn_cons]
    split
    · exact wpAny_bind (wpAny_bind (wpAny_rule (wpAny_pure (zg3 sn l h))))
    · exact wpAny_bind (wpAny_pure (zg3 sn l h))
theorem ziD {m : Sre.M} (k : Nat) (hk : k < 100) (h : (m.runFor (4 * (k + 1))).outcome = some .failed) {Q : Option Sre.M → Shared → Prop} (hQ : Q none s) : wpAny (model prog w) A (reRunToEnd m) Q E s := by
  unfold reRunToEnd
  refine wpAny_bind (zh2 k (2 ^ 64) m (by rw [h]; rfl) (Nat.lt_trans hk (by decide)) ?_)
  refine wpAny_bind (zg3 _ _ ?_)
  rw [h]
  exact wpAny_pure hQ
end
end Mine
end MpZ0x
section MpZ1x
open PySem
namespace Mine
open PySem.Builtin PySem.Builtin.Re
theorem zeQ : PlainAttrs "re.Pattern" :=
  ⟨⟨"object.__getattribute__", by rw [typeLookup_type, builtinLookup_eq_fast]; kernel_rfl, by decide +kernel⟩, by rw [typeLookup_type, builtinLookup_eq_fast]; kernel_rfl⟩
theorem zdC : PySem.Slot "re.Pattern" "sub" "re.Pattern.sub" :=
  PySem.Slot.of (owner := "re.Pattern") (n := "sub") (by rw [typeLookup_type, builtinLookup_eq_fast]; kernel_rfl) (by decide +kernel) (by decide +kernel) (by decide +kernel)
    (by first | exact .inl (by decide +kernel) | exact .inr (by decide +kernel)) (by rw [isSubtype_type]; kernel_rfl)
theorem zf1 : typeOf (.builtin "re.Pattern.sub") = pure (.type "method_descriptor") := by show builtinType _ = _; rw [builtinType_eq_fast]; kernel_rfl
theorem zfQ : entryFor table "re.Pattern.sub" = some Builtin.«re.Pattern.sub» := entryFor_of_tree (by kernel_rfl)
theorem zeV : entryFor table "re.Pattern.sub.loop" = some Builtin.«re.Pattern.sub.loop» := entryFor_of_tree (by kernel_rfl)
theorem zeZ (a b c : Value) : argsOk "re.Pattern.sub" ⟨[a, b, c], []⟩ := by unfold argsOk; kernel_rfl
theorem zcI : plainId "re.Pattern.sub.loop" = true := by decide +kernel
set_option genInjectivity false in
structure PatAt (h : Heap) (P C : Addr) (codes : Array Value) : Prop where
  pat : ∃ x t u v w y, h.get? P = some { cls := .type "re.Pattern", data := .fields #[.str x t, .int 32 u, .int 1 v, .none, .none, .ref C, .int 0 w] } ∧ y = (0 : Nat)
  code : ∃ n, h.get? C = some (tobj codes n)
  is : (codes.map reRawOf).map Int.toNat = reCode
theorem PatAt.keeps {h h' : Heap} {P C : Addr} {codes : Array Value} (x : PatAt h P C codes) (hk : ∀ b o, h.get? b = some o → h'.get? b = some o) : PatAt h' P C codes :=
  ⟨let ⟨a, t, u, v, w, y, e, r⟩ := x.pat; ⟨a, t, u, v, w, y, hk _ _ e, r⟩, let ⟨n, e⟩ := x.code; ⟨n, hk _ _ e⟩, x.is⟩
section
variable {prog : Program} {w : World} {A : Around} {E : Value → Shared → Prop} {s : Shared} {P C : Addr} {codes : Array Value} {a : Array Nat} {u : Tok}
theorem zhu (hp : PatAt s.heap P C codes) {Q : ReTarget → Shared → Prop} (hQ : Q { pattern := .ref P, string := .str ⟨a⟩ u, code := reCode, text := a, kind := 0, groups := 1, pos := 0, lim := a.size } s) :
    wpAny (model prog w) A (reWholeTarget (.ref P) (.str ⟨a⟩ u)) Q E s := by
  obtain ⟨hh, g, d, tk, os⟩ := s
  obtain ⟨x, t, u', v, w', _, e, _⟩ := hp.pat
  obtain ⟨n, ec⟩ := hp.code
  unfold reWholeTarget
  refine wpAny_bind (wpAny_fieldsOf e rfl ?_)
  have ht : ∀ {Q : Array Nat × Nat → Shared → Prop}, Q (a, 0) ⟨hh, g, d, tk, os⟩ → wpAny (model prog w) A (reTextOf (.str ⟨a⟩ u)) Q E ⟨hh, g, d, tk, os⟩ := by
    intro Q h
    unfold reTextOf
    repeat (any_goals (first | assumption | wp_step))
  refine wpAny_bind (ht ?_)
  have hr : ∀ {Q : Array Int → Shared → Prop}, Q (codes.map reRawOf) ⟨hh, g, d, tk, os⟩ → wpAny (model prog w) A (reRawItems (.ref C)) Q E ⟨hh, g, d, tk, os⟩ := by
    intro Q h
    unfold reRawItems
    exact wpAny_bind (wpAny_seqItems ec rfl (wpAny_pure h))
  dsimp only
  unfold reNoCollectionInside
  repeat (any_goals (first | assumption | ((with_reducible show wpAny _ _ (reRawItems _) _ _ _); refine hr ?_) | wp_step))
  have := hp.is
  rw [show (codes.map reRawOf).map (fun x => x.toNat) = reCode from this]
  exact hQ
end
end Mine
end MpZ1x
section
open PySem
namespace Mine
inductive D where
  | none
  | bool (b : Bool)
  | int (i : Int)
  | str (l : List Nat)
  | list (l : List D)
  | tup (l : List D)
  | tok (k : Nat)
  | ty (n : String)
  deriving Inhabited
inductive R where
  | val (d : D)
  | own (l : List D)
  | bor (l : List D)
noncomputable def R.ds : R → D
  | .val d => d
  | .own l => .list l
  | .bor l => .list l
noncomputable def R.fz : R → Option D
  | .val d => some d
  | .own l => some (.list l)
  | .bor _ => Option.none
inductive Slot where
  | unset
  | val (d : D)
  | own (l : List D)
  | app (j : Nat)
set_option genCtorIdx false in
inductive Op where
  | add | sub | mul | fdiv | mod | pow | neg
  | eq | ne | lt | le | gt | ge | is_ | isnot | in_ | notin
  | index | slice | slice3 | len | abs | sum
  | tyOf | isInst | isSub
  | rfind | find4 | startswith | endswith | rstrip | lstrip | replace | join | split | translate | resub | count | strIndex | resub0
  | listOf | tupleOf | sorted | min | max | fmt | lindex
  | other (n : Nat)
set_option genCtorIdx false in
set_option genInjectivity false in
inductive X where
  | const (d : D)
  | var (i : Nat)
  | op (o : Op) (a : X)
  | nil
  | cons (a r : X)
  | star (a : X)
  | and (a b : X)
  | or (a b : X)
  | not (a : X)
  | ite (c t e : X)
  | call (f : Nat) (a : X)
  | tup (a : X)
  | list (a : X)
  | comp (i : Nat) (it cond elt : X)
  | comp2 (i j : Nat) (it cond elt : X)
  | comp3 (i : Nat) (it : X) (j : Nat) (jt elt : X)
  | mapF (f : Nat) (a : X)
  | seqI (a : X)
  | rangeI (a : X)
  | enumI (a : X)
  | setI (i : Nat) (it elt : X)
set_option genCtorIdx false in
set_option genInjectivity false in
inductive S where
  | skip
  | seq (a b : S)
  | fz (i : Nat)
  | assign (i : Nat) (x : X)
  | assignO (i : Nat) (x : X)
  | assign2 (i j : Nat) (x : X)
  | assign3 (i j k : Nat) (x : X)
  | assign1 (i : Nat) (x : X)
  | alias (i j : Nat)
  | append (i : Nat) (x : X)
  | appendVia (i j : Nat) (x : X)
  | aug (i : Nat) (x : X)
  | extend (i : Nat) (x : X)
  | pop (i : Nat)
  | setItem (i : Nat) (k x : X)
  | augItem (i : Nat) (k x : X)
  | delItem (i : Nat) (k : X)
  | ite (c : X) (a b : S)
  | while (c : X) (b : S)
  | forE (i : Nat) (it : X) (b : S)
  | forE2 (i j : Nat) (it : X) (b : S)
  | forN (is : List Nat) (it : X) (b : S)
  | ret (x : X)
  | brk
  | cont
  | assert (c : X)
  | try_ (b : S)
  | tryV (f : Nat) (a : X) (b : S)
inductive Out where
  | next
  | brk
  | cont
  | ret (d : D)
noncomputable def lim : Nat := 1000000
noncomputable def tokC : Nat → List Nat
  | 0 => [42]
  | _ => [63]
mutual
noncomputable def D.toPy : D → PyData
  | .none => .none
  | .bool b => .bool b
  | .int i => .int i
  | .str l => .str ⟨l.toArray⟩
  | .list l => .list (D.toPys l)
  | .tup l => .tuple (D.toPys l)
  | .tok k => .list [.str ⟨(tokC k).toArray⟩]
  | .ty _ => .none
noncomputable def D.toPys : List D → List PyData
  | [] => []
  | d :: r => d.toPy :: D.toPys r
end
mutual
noncomputable def D.ok : Nat → D → Bool
  | 0, _ => false
  | n + 1, .list l => D.oks n l
  | n + 1, .tup l => D.oks n l
  | _ + 1, .ty _ => false
  | n + 1, .tok _ => decide (0 < n)
  | _ + 1, _ => true
noncomputable def D.oks : Nat → List D → Bool
  | _, [] => true
  | n, d :: r => d.ok n && D.oks n r
end
noncomputable def D.truth : D → Option Bool
  | .none => some false
  | .bool b => some b
  | .int i => some (decide (i ≠ 0))
  | .str l => some (!l.isEmpty)
  | .list l => some (!l.isEmpty)
  | .tup l => some (!l.isEmpty)
  | _ => Option.none
noncomputable def eqD : D → D → Option Bool
  | .str a, .str b => some (decide (a = b))
  | .int a, .int b => some (decide (a = b))
  | a, b => if a.ok 9 && b.ok 9 then some (PyData.eqv a.toPy b.toPy) else Option.none
noncomputable def inD (d : D) : D → Option Bool
  | .list l => if D.oks 8 l && d.ok 9 then some ((D.toPys l).any fun y => PyData.eqv y d.toPy) else Option.none
  | .tup l => if D.oks 8 l && d.ok 9 then some ((D.toPys l).any fun y => PyData.eqv y d.toPy) else Option.none
  | .str b => match d with
    | .str a => some (Txt.contains ⟨b.toArray⟩ ⟨a.toArray⟩)
    | _ => Option.none
  | _ => Option.none
noncomputable def isD : D → D → Option Bool
  | .tok i, .tok j => some (decide (i = j))
  | .tok _, .str _ => some false
  | .str _, .tok _ => some false
  | .tok _, .none => some false
  | .none, .tok _ => some false
  | .none, .none => some true
  | .str _, .none => some false
  | .list _, .none => some false
  | .tup _, .none => some false
  | .bool _, .none => some false
  | .int _, .none => some false
  | .ty a, .ty b => some (decide (a = b))
  | _, _ => Option.none
noncomputable def ltL (a b : List Nat) : Bool := decide (a < b)
noncomputable def place (i : Int) (n : Nat) : Option Nat :=
  if 0 ≤ i then (if i < n then some i.toNat else Option.none) else (if 0 ≤ i + n then some (i + n).toNat else Option.none)
noncomputable def small (i : Int) : Bool := decide (-1000000000 ≤ i) && decide (i ≤ 1000000000)
noncomputable def clip (i : Int) (n : Nat) : Nat := if i < 0 then (i + n).toNat else if i < n then i.toNat else n
noncomputable def bound (d : D) (dflt n : Nat) : Option Nat := match d with
  | .none => some dflt
  | .int i => if small i then some (clip i n) else Option.none
  | _ => Option.none
noncomputable def cut {α : Type} (l : List α) (lo hi : Nat) : List α := (l.drop lo).take (hi - lo)
noncomputable def pick {α : Type} (l : List α) (lo hi st : Option Int) : List α :=
  (sliceRange (sliceBounds lo hi st l.length).1 (sliceBounds lo hi st l.length).2.1 (sliceBounds lo hi st l.length).2.2).filterMap (l[·]?)
noncomputable def partD : D → Option (Option Int)
  | .none => some Option.none
  | .int i => if small i then some (some i) else Option.none
  | _ => Option.none
noncomputable def toInts : List D → Option (List Int)
  | [] => some []
  | .int i :: r => (toInts r).map (i :: ·)
  | _ :: _ => Option.none
noncomputable def toStrs : List D → Option (List (List Nat))
  | [] => some []
  | .str s :: r => (toStrs r).map (s :: ·)
  | _ :: _ => Option.none
noncomputable def strD (l : List Nat) : Option R := if l.length ≤ lim then some (.val (.str l)) else Option.none
noncomputable def opAdd : List D → Option R
  | [.int a, .int b] => some (.val (.int (a + b)))
  | [.str a, .str b] => if a.length + b.length ≤ lim then some (.val (.str (a ++ b))) else Option.none
  | [.list a, .list b] => if a.length + b.length ≤ lim then some (.own (a ++ b)) else Option.none
  | _ => Option.none
noncomputable def opSub : List D → Option R
  | [.int a, .int b] => some (.val (.int (a - b)))
  | _ => Option.none
noncomputable def rep {α : Type} (l : List α) (n : Int) : List α := (List.replicate n.toNat l).flatten
noncomputable def opMul : List D → Option R
  | [.int a, .int b] => if small a || small b then some (.val (.int (a * b))) else Option.none
  | [.str a, .int b] => if small b && decide (a.length * b.toNat ≤ lim) then some (.val (.str (rep a b))) else Option.none
  | [.list a, .int b] => if small b && decide (a.length * b.toNat ≤ lim) then some (.own (rep a b)) else Option.none
  | _ => Option.none
noncomputable def opDiv : List D → Option R
  | [.int a, .int b] => if b = 0 then Option.none else some (.val (.int (Int.fdiv a b)))
  | _ => Option.none
noncomputable def opMod : List D → Option R
  | [.int a, .int b] => if b = 0 then Option.none else some (.val (.int (Int.fmod a b)))
  | _ => Option.none
noncomputable def opBool (f : D → D → Option Bool) : List D → Option R
  | [a, b] => (f a b).map fun x => .val (.bool x)
  | _ => Option.none
noncomputable def opCmp (f : Int → Int → Bool) (g : List Nat → List Nat → Bool) : List D → Option R
  | [.int a, .int b] => some (.val (.bool (f a b)))
  | [.str a, .str b] => some (.val (.bool (g a b)))
  | _ => Option.none
noncomputable def opIndex : List D → Option R
  | [.str l, .int i] => if small i then (match place i l.length with | some k => (l[k]?).map fun c => .val (.str [c]) | Option.none => Option.none) else Option.none
  | [.list l, .int i] => if small i then (match place i l.length with | some k => (l[k]?).map .val | Option.none => Option.none) else Option.none
  | [.tup l, .int i] => if small i then (match place i l.length with | some k => (l[k]?).map .val | Option.none => Option.none) else Option.none
  | _ => Option.none
noncomputable def opSlice : List D → Option R
  | [.str l, a, b] => match bound a 0 l.length, bound b l.length l.length with
    | some lo, some hi => some (.val (.str (cut l lo hi)))
    | _, _ => Option.none
  | [.list l, a, b] => match bound a 0 l.length, bound b l.length l.length with
    | some lo, some hi => some (.own (cut l lo hi))
    | _, _ => Option.none
  | _ => Option.none
noncomputable def opSlice3 : List D → Option R
  | [.list l, a, b, .int n] => match partD a, partD b with
    | some lo, some hi => if n ≠ 0 ∧ small n then some (.own (pick l lo hi (some n))) else Option.none
    | _, _ => Option.none
  | _ => Option.none
noncomputable def opLen : List D → Option R
  | [.str l] => some (.val (.int l.length))
  | [.list l] => some (.val (.int l.length))
  | [.tup l] => some (.val (.int l.length))
  | _ => Option.none
noncomputable def opAbs : List D → Option R
  | [.int i] => some (.val (.int i.natAbs))
  | _ => Option.none
noncomputable def opSum : List D → Option R
  | [.list l] => (toInts l).map fun is => .val (.int is.sum)
  | _ => Option.none
noncomputable def opNeg : List D → Option R
  | [.int i] => some (.val (.int (-i)))
  | _ => Option.none
noncomputable def tyD : D → Option String
  | .str _ => some "str"
  | .int _ => some "int"
  | .bool _ => some "bool"
  | .list _ => some "list"
  | .tup _ => some "tuple"
  | .tok _ => some "list"
  | _ => Option.none
noncomputable def opTyOf : List D → Option R
  | [d] => (tyD d).map fun n => .val (.ty n)
  | _ => Option.none
noncomputable def opIsInst : List D → Option R
  | [.str _, .ty n] => if n = "str" then some (.val (.bool true)) else if n = "bytes" then some (.val (.bool false)) else Option.none
  | [.str _, .tup [.ty a, .ty b]] => if a = "list" ∧ b = "tuple" then some (.val (.bool false)) else Option.none
  | [.list _, .tup [.ty a, .ty b]] => if a = "list" ∧ b = "tuple" then some (.val (.bool true)) else Option.none
  | _ => Option.none
noncomputable def opIsSub : List D → Option R
  | [.ty n, .tup [.ty a, .ty b]] => if n = "str" ∧ a = "str" ∧ b = "bytes" then some (.val (.bool true)) else Option.none
  | _ => Option.none
noncomputable def opStr2 (f : PySem.Str → PySem.Str → R) : List D → Option R
  | [.str a, .str b] => some (f ⟨a.toArray⟩ ⟨b.toArray⟩)
  | _ => Option.none
noncomputable def opFind4 : List D → Option R
  | [.str a, .str b, .int i, .int j] => if small i ∧ small j then
      some (.val (.int (match Builtin.Str.occurrences ⟨a.toArray⟩ ⟨b.toArray⟩ (fromIndex a.length i) (min (fromIndex a.length j) a.length) 1 with | k :: _ => (k : Int) | [] => -1))) else Option.none
  | _ => Option.none
noncomputable def opReplace : List D → Option R
  | [.str a, .str b, .str _] => if (Builtin.Str.occurrences ⟨a.toArray⟩ ⟨b.toArray⟩ 0 a.length (a.length + 1)).isEmpty then some (.val (.str a)) else Option.none
  | _ => Option.none
noncomputable def joinL (s : List Nat) : List (List Nat) → List Nat
  | [] => []
  | [a] => a
  | a :: r => a ++ s ++ joinL s r
noncomputable def opJoin : List D → Option R
  | [.str s, .list l] => match toStrs l with
    | some ls => if (joinL s ls).length ≤ lim then some (.val (.str (joinL s ls))) else Option.none
    | Option.none => Option.none
  | _ => Option.none
noncomputable def opSplit : List D → Option R
  | [.str a, .str b] => if b.length = 1 ∧ a.length + 2 ≤ lim then some (.own ((Txt.split ⟨a.toArray⟩ ⟨b.toArray⟩).map fun x => .str x.cps.toList)) else Option.none
  | _ => Option.none
noncomputable def special : List Nat := [40, 41, 91, 93, 123, 125, 63, 42, 43, 45, 124, 94, 36, 92, 46, 38, 126, 35, 32, 9, 10, 13, 11, 12]
noncomputable def opTranslate : List D → Option R
  | [.str [c]] => if c < 128 then some (.val (.str (if special.contains c then [92, c] else [c]))) else Option.none
  | _ => Option.none
noncomputable def noHit : List (List Nat) := [[], [33], [46, 45, 97], [33, 97], [97, 45, 99], [93], [33, 33], [97, 47, 98], [97, 45, 98], [91], [42], [63], [97], [98], [97, 98], [33, 97, 98], [33, 98], [33, 97, 45, 98], [46], [33, 46]]
noncomputable def opResub : List D → Option R
  | [.str a] => if noHit.contains a then some (.val (.str a)) else if a = [124, 38, 126] then some (.val (.str [92, 124, 92, 38, 92, 126])) else Option.none
  | _ => Option.none
noncomputable def opResub0 : List D → Option R
  | [.str a] => if noHit.contains a then some (.val (.str a)) else Option.none
  | _ => Option.none
noncomputable def opListOf : List D → Option R
  | [.list l] => some (.own l)
  | _ => Option.none
noncomputable def opTupleOf : List D → Option R
  | [.list l] => some (.val (.tup l))
  | _ => Option.none
noncomputable def ltSs : List (List Nat) → List (List Nat) → Bool
  | [], [] => false
  | [], _ :: _ => true
  | _ :: _, [] => false
  | a :: as, b :: bs => if a = b then ltSs as bs else ltL a b
noncomputable def ltD : D → D → Option Bool
  | .str a, .str b => some (ltL a b)
  | .list a, .list b => match toStrs a, toStrs b with
    | some x, some y => some (ltSs x y)
    | _, _ => Option.none
  | _, _ => Option.none
noncomputable def gtD (a b : D) : Option Bool := ltD b a
noncomputable def bestGo (better : D → D → Option Bool) : D → List D → Option D
  | b, [] => some b
  | b, d :: r => match better d b with
    | some true => bestGo better d r
    | some false => bestGo better b r
    | Option.none => Option.none
noncomputable def opBest (better : D → D → Option Bool) : List D → Option R
  | [.list (d :: r)] => (bestGo better d r).map .val
  | [.tup (d :: r)] => (bestGo better d r).map .val
  | _ => Option.none
noncomputable def opMax : List D → Option R
  | [.int a, .int b] => some (.val (.int (if b > a then b else a)))
  | ds => opBest gtD ds
noncomputable def opPow : List D → Option R
  | [.int a, .int b] => if 0 ≤ b ∧ b ≤ 64 ∧ 0 ≤ a ∧ a ≤ 16 then some (.val (.int (a ^ b.toNat))) else Option.none
  | _ => Option.none
noncomputable def opLIndex : List D → Option R
  | [.list l, .str s] => match toStrs l with
    | some ls => if ls.contains s then some (.val (.int (ls.idxOf s))) else Option.none
    | Option.none => Option.none
  | _ => Option.none
noncomputable def opCount : List D → Option R
  | [.list l, .str s] => match toStrs l with
    | some ls => some (.val (.int (ls.count s)))
    | Option.none => Option.none
  | _ => Option.none
noncomputable def opSIndex : List D → Option R
  | [.str a, .str b] => match Builtin.Str.occurrences ⟨a.toArray⟩ ⟨b.toArray⟩ 0 a.length 1 with
    | i :: _ => some (.val (.int (i : Nat)))
    | [] => Option.none
  | _ => Option.none
noncomputable def opFmt : List D → Option R
  | [.str a, .str b, .str c] => strD (a ++ b ++ c)
  | _ => Option.none
noncomputable def opF : Op → List D → Option R
  | .add, ds => opAdd ds
  | .sub, ds => opSub ds
  | .mul, ds => opMul ds
  | .fdiv, ds => opDiv ds
  | .mod, ds => opMod ds
  | .neg, ds => opNeg ds
  | .eq, ds => opBool eqD ds
  | .ne, ds => opBool (fun a b => (eqD a b).map (!·)) ds
  | .lt, ds => opCmp (fun a b => decide (a < b)) ltL ds
  | .le, ds => opCmp (fun a b => decide (a ≤ b)) (fun a b => !ltL b a) ds
  | .gt, ds => opCmp (fun a b => decide (b < a)) (fun a b => ltL b a) ds
  | .ge, ds => opCmp (fun a b => decide (b ≤ a)) (fun a b => !ltL a b) ds
  | .is_, ds => opBool isD ds
  | .isnot, ds => opBool (fun a b => (isD a b).map (!·)) ds
  | .in_, ds => opBool inD ds
  | .notin, ds => opBool (fun a b => (inD a b).map (!·)) ds
  | .index, ds => opIndex ds
  | .slice, ds => opSlice ds
  | .slice3, ds => opSlice3 ds
  | .len, ds => opLen ds
  | .abs, ds => opAbs ds
  | .sum, ds => opSum ds
  | .tyOf, ds => opTyOf ds
  | .isInst, ds => opIsInst ds
  | .isSub, ds => opIsSub ds
  | .rfind, ds => opStr2 (fun a b => .val (.int (Txt.rfind a b))) ds
  | .find4, ds => opFind4 ds
  | .startswith, ds => opStr2 (fun a b => .val (.bool (Txt.startswith a b))) ds
  | .endswith, ds => opStr2 (fun a b => .val (.bool (Txt.endswith a b))) ds
  | .rstrip, ds => opStr2 (fun a b => .val (.str (Txt.rstripChars a b).cps.toList)) ds
  | .lstrip, ds => opStr2 (fun a b => .val (.str (Txt.lstripChars a b).cps.toList)) ds
  | .replace, ds => opReplace ds
  | .join, ds => opJoin ds
  | .split, ds => opSplit ds
  | .translate, ds => opTranslate ds
  | .resub, ds => opResub ds
  | .resub0, ds => opResub0 ds
  | .listOf, ds => opListOf ds
  | .tupleOf, ds => opTupleOf ds
  | .fmt, ds => opFmt ds
  | .min, ds => opBest ltD ds
  | .max, ds => opMax ds
  | .pow, ds => opPow ds
  | .lindex, ds => opLIndex ds
  | .count, ds => opCount ds
  | .strIndex, ds => opSIndex ds
  | _, _ => Option.none
noncomputable def fzAll : List R → Option (List D)
  | [] => some []
  | r :: rs => match r.fz, fzAll rs with
    | some d, some ds => some (d :: ds)
    | _, _ => Option.none
noncomputable def truthR : Option (List R) → Option Bool
  | some [r] => r.ds.truth
  | _ => Option.none
noncomputable def compGo (f : D → Option (Option D)) : List D → Option (List D)
  | [] => some []
  | d :: r => match f d with
    | Option.none => Option.none
    | some Option.none => compGo f r
    | some (some y) => match compGo f r with
      | some ys => some (y :: ys)
      | Option.none => Option.none
noncomputable def turnD (c e : Option (List R)) : Option (Option D) := match truthR c with
  | some true => (match e with
    | some [r] => r.fz.map some
    | _ => Option.none)
  | some false => some Option.none
  | Option.none => Option.none
noncomputable def upTo (n : Nat) (a b : Int) : List Int := (List.range n).map fun (k : Nat) => a + b * (k : Int)
noncomputable def rangeL (a b : Int) : List D := (upTo (b - a).toNat a 1).map .int
noncomputable def rangeDown (a b : Int) : List D := (upTo (a - b).toNat a (-1)).map .int
noncomputable def opRange : List D → Option (List D)
  | [.int n] => if small n && decide (n ≤ 1000000) then some (rangeL 0 n) else Option.none
  | [.int a, .int n] => if small a && small n && decide (n - a ≤ 1000000) then some (rangeL a n) else Option.none
  | [.int a, .int n, .int s] => if s = -1 ∧ small a ∧ small n ∧ a - n ≤ 1000000 then some (rangeDown a n) else Option.none
  | _ => Option.none
noncomputable def itemsOf : D → Option (List D)
  | .list l => some l
  | .tup l => some l
  | .str l => some (l.map fun c => .str [c])
  | _ => Option.none
noncomputable def enumOf : D → Option (List D)
  | .list l => some l
  | .str l => some (l.map fun c => .str [c])
  | _ => Option.none
noncomputable def enumL (k : Int) : List D → List D
  | [] => []
  | d :: r => .tup [.int k, d] :: enumL (k + 1) r
noncomputable def allSome {α : Type} : List (Option α) → Option (List α)
  | [] => some []
  | some a :: r => (allSome r).map (a :: ·)
  | Option.none :: _ => Option.none
section
variable (cf : Nat → List D → Option D)
noncomputable def ev : X → List Slot → Option (List R)
  | .const d, _ => some [.val d]
  | .var i, ρ => match ρ[i]? with
    | some (.val d) => some [.val d]
    | some (.own l) => some [.bor l]
    | _ => Option.none
  | .op o a, ρ => match ev a ρ with
    | some rs => (opF o (rs.map R.ds)).map fun r => [r]
    | Option.none => Option.none
  | .nil, _ => some []
  | .cons a r, ρ => match ev a ρ with
    | some [x] => (ev r ρ).map fun xs => x :: xs
    | _ => Option.none
  | .star a, ρ => match ev a ρ with
    | some [x] => (match x.fz with
      | some (.list l) => some (l.map .val)
      | some (.tup l) => some (l.map .val)
      | _ => Option.none)
    | _ => Option.none
  | .and a b, ρ => match ev a ρ with
    | some [x] => (match x.ds.truth with
      | some true => ev b ρ
      | some false => some [x]
      | Option.none => Option.none)
    | _ => Option.none
  | .or a b, ρ => match ev a ρ with
    | some [x] => (match x.ds.truth with
      | some false => ev b ρ
      | some true => some [x]
      | Option.none => Option.none)
    | _ => Option.none
  | .not a, ρ => match ev a ρ with
    | some [x] => x.ds.truth.map fun b => [.val (.bool (!b))]
    | _ => Option.none
  | .ite c t e, ρ => match truthR (ev c ρ) with
    | some true => ev t ρ
    | some false => ev e ρ
    | Option.none => Option.none
  | .call f a, ρ => match ev a ρ with
    | some rs => (match fzAll rs with
      | some ds => (cf f ds).map fun d => [.val d]
      | Option.none => Option.none)
    | Option.none => Option.none
  | .tup a, ρ => match ev a ρ with
    | some rs => (match fzAll rs with
      | some ds => if ds.length ≤ lim then some [.val (.tup ds)] else Option.none
      | Option.none => Option.none)
    | Option.none => Option.none
  | .list a, ρ => match ev a ρ with
    | some rs => (match fzAll rs with
      | some ds => if ds.length ≤ lim then some [.own ds] else Option.none
      | Option.none => Option.none)
    | Option.none => Option.none
  | .comp i it c e, ρ => match ev it ρ with
    | some [.val (.list items)] => (compGo (fun d => turnD (ev c (ρ.set i (.val d))) (ev e (ρ.set i (.val d)))) items).map fun l => [.own l]
    | _ => Option.none
  | .comp2 i j it c e, ρ => match ev it ρ with
    | some [.val (.list items)] => (compGo (fun d => match d with
        | .tup [a, b] => turnD (ev c ((ρ.set i (.val a)).set j (.val b))) (ev e ((ρ.set i (.val a)).set j (.val b)))
        | _ => Option.none) items).map fun l => [.own l]
    | _ => Option.none
  | .comp3 i it j jt e, ρ => match ev it ρ with
    | some [.val (.list items)] => (match compGo (fun d => match ev jt (ρ.set i (.val d)) with
        | some [.val (.list its)] => (compGo (fun d' => turnD (some [.val (.bool true)]) (ev e ((ρ.set i (.val d)).set j (.val d')))) its).map fun l => some (.list l)
        | _ => Option.none) items with
      | some ls => (match allSome (ls.map fun d => match d with | .list l => some l | _ => Option.none) with
        | some lls => if lls.flatten.length ≤ lim then some [.own lls.flatten] else Option.none
        | Option.none => Option.none)
      | Option.none => Option.none)
    | _ => Option.none
  | .mapF f a, ρ => match ev a ρ with
    | some [x] => (match x.ds with
      | .list items => (allSome (items.map fun d => cf f [d])).map fun l => [.val (.tup l)]
      | _ => Option.none)
    | _ => Option.none
  | .seqI a, ρ => match ev a ρ with
    | some [x] => (match x.fz with
      | some d => (itemsOf d).map fun l => [.val (.list l)]
      | Option.none => Option.none)
    | _ => Option.none
  | .rangeI a, ρ => match ev a ρ with
    | some rs => (opRange (rs.map R.ds)).map fun l => [.val (.list l)]
    | Option.none => Option.none
  | .enumI a, ρ => match ev a ρ with
    | some [x] => (match x.fz with
      | some d => (enumOf d).map fun l => [.val (.list (enumL 0 l))]
      | Option.none => Option.none)
    | _ => Option.none
  | .setI i it e, ρ => match ev it ρ with
    | some [.val (.list items)] => (match compGo (fun d => turnD (some [.val (.bool true)]) (ev e (ρ.set i (.val d)))) items with
      | some (.bool b :: r) => if r.all (fun d => match d with | .bool b' => b' == b | _ => false) then some [.val (.bool b)] else Option.none
      | _ => Option.none)
    | _ => Option.none
noncomputable def ev1 (x : X) (ρ : List Slot) : Option D := match ev cf x ρ with
  | some [r] => r.fz
  | _ => Option.none
noncomputable def evT (x : X) (ρ : List Slot) : Option Bool := truthR (ev cf x ρ)
noncomputable def evI (x : X) (ρ : List Slot) : Option (List D) := match ev cf x ρ with
  | some [.val (.list l)] => some l
  | _ => Option.none
noncomputable def whileGo (c : List Slot → Option Bool) (b : List Slot → Option (List Slot × Out)) : Nat → List Slot → Option (List Slot × Out)
  | 0, _ => Option.none
  | n + 1, ρ => match c ρ with
    | Option.none => Option.none
    | some false => some (ρ, .next)
    | some true => match b ρ with
      | Option.none => Option.none
      | some (ρ', .next) => whileGo c b n ρ'
      | some (ρ', .cont) => whileGo c b n ρ'
      | some (ρ', .brk) => some (ρ', .next)
      | some (ρ', .ret d) => some (ρ', .ret d)
noncomputable def forGo (st : D → List Slot → Option (List Slot)) (b : List Slot → Option (List Slot × Out)) : List D → List Slot → Option (List Slot × Out)
  | [], ρ => some (ρ, .next)
  | d :: r, ρ => match st d ρ with
    | Option.none => Option.none
    | some ρ₁ => match b ρ₁ with
      | Option.none => Option.none
      | some (ρ', .next) => forGo st b r ρ'
      | some (ρ', .cont) => forGo st b r ρ'
      | some (ρ', .brk) => some (ρ', .next)
      | some (ρ', .ret d) => some (ρ', .ret d)
noncomputable def put1 (i : Nat) (d : D) (ρ : List Slot) : Option (List Slot) := some (ρ.set i (.val d))
noncomputable def put2 (i j : Nat) (d : D) (ρ : List Slot) : Option (List Slot) := match d with
  | .tup [a, b] => some ((ρ.set i (.val a)).set j (.val b))
  | _ => Option.none
noncomputable def setAll : List Slot → List Nat → List D → List Slot
  | ρ, i :: is, d :: ds => setAll (ρ.set i (.val d)) is ds
  | ρ, _, _ => ρ
noncomputable def putN (is : List Nat) (d : D) (ρ : List Slot) : Option (List Slot) := match d with
  | .tup l => if l.length = is.length then some (setAll ρ is l) else none
  | _ => none
noncomputable def ownAt (ρ : List Slot) (i : Nat) : Option (List D) := match ρ[i]? with
  | some (.own l) => some l
  | _ => Option.none
noncomputable def noApp (i : Nat) (ρ : List Slot) : Bool := ρ.all fun s => match s with | .app j => j != i | _ => true
noncomputable def wf : Nat := 100000
noncomputable def ex : S → List Slot → Option (List Slot × Out)
  | .skip, ρ => some (ρ, .next)
  | .seq a b, ρ => match ex a ρ with
    | some (ρ', .next) => ex b ρ'
    | some (ρ', o) => some (ρ', o)
    | Option.none => Option.none
  | .fz i, ρ => match ownAt ρ i with
    | some l => some (ρ.set i (.val (.list l)), .next)
    | Option.none => some (ρ, .next)
  | .assign i x, ρ => (ev1 cf x ρ).map fun d => (ρ.set i (.val d), .next)
  | .assignO i x, ρ => if noApp i ρ then (match ev cf x ρ with
    | some [.own l] => some (ρ.set i (.own l), .next)
    | some [.val d] => some (ρ.set i (.val d), .next)
    | _ => Option.none) else Option.none
  | .assign1 i x, ρ => match ev1 cf x ρ with
    | some d => some (ρ.set i (.val d), .next)
    | Option.none => Option.none
  | .assign2 i j x, ρ => match ev1 cf x ρ with
    | some (.tup [a, b]) => some ((ρ.set i (.val a)).set j (.val b), .next)
    | _ => Option.none
  | .assign3 i j k x, ρ => match ev1 cf x ρ with
    | some (.tup [a, b, c]) => some (((ρ.set i (.val a)).set j (.val b)).set k (.val c), .next)
    | _ => Option.none
  | .alias i j, ρ => match ownAt ρ j with
    | some _ => some (ρ.set i (.app j), .next)
    | Option.none => Option.none
  | .append i x, ρ => match ev1 cf x ρ, ownAt ρ i with
    | some d, some l => if l.length < lim then some (ρ.set i (.own (l ++ [d])), .next) else Option.none
    | _, _ => Option.none
  | .appendVia i j x, ρ => match ρ[i]? with
    | some (.app j') => if j' = j then (match ev1 cf x ρ, ownAt ρ j with
      | some d, some l => if l.length < lim then some (ρ.set j (.own (l ++ [d])), .next) else Option.none
      | _, _ => Option.none) else Option.none
    | _ => Option.none
  | .aug i x, ρ => match ρ[i]?, ev1 cf x ρ with
    | some (.val (.str a)), some (.str b) => if a.length + b.length ≤ lim then some (ρ.set i (.val (.str (a ++ b))), .next) else Option.none
    | _, _ => Option.none
  | .extend i x, ρ => match ev1 cf x ρ, ownAt ρ i with
    | some (.list m), some l => if l.length + m.length ≤ lim then some (ρ.set i (.own (l ++ m)), .next) else Option.none
    | _, _ => Option.none
  | .pop i, ρ => match ownAt ρ i with
    | some l => (match l.getLast? with
      | some (.str _) => some (ρ.set i (.own l.dropLast), .next)
      | _ => Option.none)
    | Option.none => Option.none
  | .setItem i k x, ρ => match ev1 cf x ρ, ev1 cf k ρ, ownAt ρ i with
    | some d, some (.int n), some l => if small n then (match place n l.length with
      | some p => some (ρ.set i (.own (l.set p d)), .next)
      | Option.none => Option.none) else Option.none
    | _, _, _ => Option.none
  | .augItem i k x, ρ => match ev1 cf k ρ, ev1 cf x ρ, ownAt ρ i with
    | some (.int n), some (.str y), some l => if small n then (match place n l.length with
      | some p => (match l[p]? with
        | some (.str z) => if z.length + y.length ≤ lim then some (ρ.set i (.own (l.set p (.str (z ++ y)))), .next) else Option.none
        | _ => Option.none)
      | Option.none => Option.none) else Option.none
    | _, _, _ => Option.none
  | .delItem i k, ρ => match ev1 cf k ρ, ownAt ρ i with
    | some (.int n), some l => if 0 ≤ n ∧ n < l.length then some (ρ.set i (.own (l.eraseIdx n.toNat)), .next) else Option.none
    | _, _ => Option.none
  | .ite c a b, ρ => match evT cf c ρ with
    | some true => ex a ρ
    | some false => ex b ρ
    | Option.none => Option.none
  | .while c b, ρ => whileGo (evT cf c) (ex b) wf ρ
  | .forE i it b, ρ => match evI cf it ρ with
    | some items => forGo (put1 i) (ex b) items ρ
    | Option.none => Option.none
  | .forE2 i j it b, ρ => match evI cf it ρ with
    | some items => forGo (put2 i j) (ex b) items ρ
    | Option.none => Option.none
  | .forN is it b, ρ => match evI cf it ρ with
    | some items => forGo (putN is) (ex b) items ρ
    | Option.none => Option.none
  | .ret x, ρ => (ev1 cf x ρ).map fun d => (ρ, .ret d)
  | .brk, ρ => some (ρ, .brk)
  | .cont, ρ => some (ρ, .cont)
  | .assert c, ρ => match evT cf c ρ with
    | some true => some (ρ, .next)
    | _ => Option.none
  | .try_ b, ρ => ex b ρ
  | .tryV f a b, ρ => match ev cf a ρ with
    | some rs => (match fzAll rs with
      | some [.list []] => if f = 13 then ex b ρ else Option.none
      | some ds => (cf f ds).map fun _ => (ρ, .next)
      | Option.none => Option.none)
    | Option.none => Option.none
theorem zaJ {ρ : List Slot} {d} : ev cf (.const d) ρ = (some [.val d]) := rfl
theorem zbo {ρ : List Slot} {i} : ev cf (.var i) ρ = (match ρ[i]? with
    | some (.val d) => some [.val d]
    | some (.own l) => some [.bor l]
    | _ => Option.none) := rfl
theorem zci {ρ : List Slot} {o a} : ev cf (.op o a) ρ = (match ev cf a ρ with
    | some rs => (opF o (rs.map R.ds)).map fun r => [r]
    | Option.none => Option.none) := rfl
theorem zbM {ρ : List Slot} : ev cf .nil ρ = (some []) := rfl
theorem za5 {ρ : List Slot} {a r} : ev cf (.cons a r) ρ = (match ev cf a ρ with
    | some [x] => (ev cf r ρ).map fun xs => x :: xs
    | _ => Option.none) := rfl
theorem zbp {ρ : List Slot} {a} : ev cf (.star a) ρ = (match ev cf a ρ with
    | some [x] => (match x.fz with
      | some (.list l) => some (l.map .val)
      | some (.tup l) => some (l.map .val)
      | _ => Option.none)
    | _ => Option.none) := rfl
theorem za9 {ρ : List Slot} {a b} : ev cf (.and a b) ρ = (match ev cf a ρ with
    | some [x] => (match x.ds.truth with
      | some true => ev cf b ρ
      | some false => some [x]
      | Option.none => Option.none)
    | _ => Option.none) := rfl
theorem zbE {ρ : List Slot} {a b} : ev cf (.or a b) ρ = (match ev cf a ρ with
    | some [x] => (match x.ds.truth with
      | some false => ev cf b ρ
      | some true => some [x]
      | Option.none => Option.none)
    | _ => Option.none) := rfl
theorem za8 {ρ : List Slot} {a} : ev cf (.not a) ρ = (match ev cf a ρ with
    | some [x] => x.ds.truth.map fun b => [.val (.bool (!b))]
    | _ => Option.none) := rfl
theorem zbq {ρ : List Slot} {c t e} : ev cf (.ite c t e) ρ = (match truthR (ev cf c ρ) with
    | some true => ev cf t ρ
    | some false => ev cf e ρ
    | Option.none => Option.none) := rfl
theorem zbk {ρ : List Slot} {f a} : ev cf (.call f a) ρ = (match ev cf a ρ with
    | some rs => (match fzAll rs with
      | some ds => (cf f ds).map fun d => [.val d]
      | Option.none => Option.none)
    | Option.none => Option.none) := rfl
theorem zbs {ρ : List Slot} {a} : ev cf (.tup a) ρ = (match ev cf a ρ with
    | some rs => (match fzAll rs with
      | some ds => if ds.length ≤ lim then some [.val (.tup ds)] else Option.none
      | Option.none => Option.none)
    | Option.none => Option.none) := rfl
theorem za4 {ρ : List Slot} {a} : ev cf (.list a) ρ = (match ev cf a ρ with
    | some rs => (match fzAll rs with
      | some ds => if ds.length ≤ lim then some [.own ds] else Option.none
      | Option.none => Option.none)
    | Option.none => Option.none) := rfl
theorem zbj {ρ : List Slot} {i it c e} : ev cf (.comp i it c e) ρ = (match ev cf it ρ with
    | some [.val (.list items)] => (compGo (fun d => turnD (ev cf c (ρ.set i (.val d))) (ev cf e (ρ.set i (.val d)))) items).map fun l => [.own l]
    | _ => Option.none) := rfl
theorem zbe {ρ : List Slot} {i j it c e} : ev cf (.comp2 i j it c e) ρ = (match ev cf it ρ with
    | some [.val (.list items)] => (compGo (fun d => match d with
        | .tup [a, b] => turnD (ev cf c ((ρ.set i (.val a)).set j (.val b))) (ev cf e ((ρ.set i (.val a)).set j (.val b)))
        | _ => Option.none) items).map fun l => [.own l]
    | _ => Option.none) := rfl
theorem zbd {ρ : List Slot} {i it j jt e} : ev cf (.comp3 i it j jt e) ρ = (match ev cf it ρ with
    | some [.val (.list items)] => (match compGo (fun d => match ev cf jt (ρ.set i (.val d)) with
        | some [.val (.list its)] => (compGo (fun d' => turnD (some [.val (.bool true)]) (ev cf e ((ρ.set i (.val d)).set j (.val d')))) its).map fun l => some (.list l)
        | _ => Option.none) items with
      | some ls => (match allSome (ls.map fun d => match d with | .list l => some l | _ => Option.none) with
        | some lls => if lls.flatten.length ≤ lim then some [.own lls.flatten] else Option.none
        | Option.none => Option.none)
      | Option.none => Option.none)
    | _ => Option.none) := rfl
theorem zbi {ρ : List Slot} {f a} : ev cf (.mapF f a) ρ = (match ev cf a ρ with
    | some [x] => (match x.ds with
      | .list items => (allSome (items.map fun d => cf f [d])).map fun l => [.val (.tup l)]
      | _ => Option.none)
    | _ => Option.none) := rfl
theorem zbh {ρ : List Slot} {a} : ev cf (.seqI a) ρ = (match ev cf a ρ with
    | some [x] => (match x.fz with
      | some d => (itemsOf d).map fun l => [.val (.list l)]
      | Option.none => Option.none)
    | _ => Option.none) := rfl
theorem zaE {ρ : List Slot} {a} : ev cf (.rangeI a) ρ = (match ev cf a ρ with
    | some rs => (opRange (rs.map R.ds)).map fun l => [.val (.list l)]
    | Option.none => Option.none) := rfl
theorem zaZ {ρ : List Slot} {a} : ev cf (.enumI a) ρ = (match ev cf a ρ with
    | some [x] => (match x.fz with
      | some d => (enumOf d).map fun l => [.val (.list (enumL 0 l))]
      | Option.none => Option.none)
    | _ => Option.none) := rfl
theorem zbg {ρ : List Slot} {i it e} : ev cf (.setI i it e) ρ = (match ev cf it ρ with
    | some [.val (.list items)] => (match compGo (fun d => turnD (some [.val (.bool true)]) (ev cf e (ρ.set i (.val d)))) items with
      | some (.bool b :: r) => if r.all (fun d => match d with | .bool b' => b' == b | _ => false) then some [.val (.bool b)] else Option.none
      | _ => Option.none)
    | _ => Option.none) := rfl
theorem zhX {ρ : List Slot} : ex cf .skip ρ = (some (ρ, .next)) := rfl
theorem zj0 {ρ : List Slot} {a b} : ex cf (.seq a b) ρ = (match ex cf a ρ with
    | some (ρ', .next) => ex cf b ρ'
    | some (ρ', o) => some (ρ', o)
    | Option.none => Option.none) := rfl
theorem exq_fz {ρ : List Slot} {i} : ex cf (.fz i) ρ = (match ownAt ρ i with
    | some l => some (ρ.set i (.val (.list l)), .next)
    | Option.none => some (ρ, .next)) := rfl
theorem zcE {ρ : List Slot} {i x} : ex cf (.assign i x) ρ = ((ev1 cf x ρ).map fun d => (ρ.set i (.val d), .next)) := rfl
theorem zcT {ρ : List Slot} {i x} : ex cf (.assignO i x) ρ = (if noApp i ρ then (match ev cf x ρ with
    | some [.own l] => some (ρ.set i (.own l), .next)
    | some [.val d] => some (ρ.set i (.val d), .next)
    | _ => Option.none) else Option.none) := rfl
theorem zet {ρ : List Slot} {i j x} : ex cf (.assign2 i j x) ρ = (match ev1 cf x ρ with
    | some (.tup [a, b]) => some ((ρ.set i (.val a)).set j (.val b), .next)
    | _ => Option.none) := rfl
theorem zes {ρ : List Slot} {i j k x} : ex cf (.assign3 i j k x) ρ = (match ev1 cf x ρ with
    | some (.tup [a, b, c]) => some (((ρ.set i (.val a)).set j (.val b)).set k (.val c), .next)
    | _ => Option.none) := rfl
theorem zgC {ρ : List Slot} {i j} : ex cf (.alias i j) ρ = (match ownAt ρ j with
    | some _ => some (ρ.set i (.app j), .next)
    | Option.none => Option.none) := rfl
theorem zff {ρ : List Slot} {i x} : ex cf (.append i x) ρ = (match ev1 cf x ρ, ownAt ρ i with
    | some d, some l => if l.length < lim then some (ρ.set i (.own (l ++ [d])), .next) else Option.none
    | _, _ => Option.none) := rfl
theorem zdg {ρ : List Slot} {i j x} : ex cf (.appendVia i j x) ρ = (match ρ[i]? with
    | some (.app j') => if j' = j then (match ev1 cf x ρ, ownAt ρ j with
      | some d, some l => if l.length < lim then some (ρ.set j (.own (l ++ [d])), .next) else Option.none
      | _, _ => Option.none) else Option.none
    | _ => Option.none) := rfl
theorem exq_aug {ρ : List Slot} {i x} : ex cf (.aug i x) ρ = (match ρ[i]?, ev1 cf x ρ with
    | some (.val (.str a)), some (.str b) => if a.length + b.length ≤ lim then some (ρ.set i (.val (.str (a ++ b))), .next) else Option.none
    | _, _ => Option.none) := rfl
theorem exq_pop {ρ : List Slot} {i} : ex cf (.pop i) ρ = (match ownAt ρ i with
    | some l => (match l.getLast? with
      | some (.str _) => some (ρ.set i (.own l.dropLast), .next)
      | _ => Option.none)
    | Option.none => Option.none) := rfl
theorem zj2 {ρ : List Slot} {c a b} : ex cf (.ite c a b) ρ = (match evT cf c ρ with
    | some true => ex cf a ρ
    | some false => ex cf b ρ
    | Option.none => Option.none) := rfl
theorem zgA {ρ : List Slot} {c b} : ex cf (.while c b) ρ = (whileGo (evT cf c) (ex cf b) wf ρ) := rfl
theorem zhY {ρ : List Slot} {i it b} : ex cf (.forE i it b) ρ = (match evI cf it ρ with
    | some items => forGo (put1 i) (ex cf b) items ρ
    | Option.none => Option.none) := rfl
theorem zgB {ρ : List Slot} {i j it b} : ex cf (.forE2 i j it b) ρ = (match evI cf it ρ with
    | some items => forGo (put2 i j) (ex cf b) items ρ
    | Option.none => Option.none) := rfl
theorem zj1 {ρ : List Slot} {x} : ex cf (.ret x) ρ = ((ev1 cf x ρ).map fun d => (ρ, .ret d)) := rfl
theorem zj3 {ρ : List Slot} : ex cf .brk ρ = (some (ρ, .brk)) := rfl
theorem zhZ {ρ : List Slot} : ex cf .cont ρ = (some (ρ, .cont)) := rfl
theorem zfe {ρ : List Slot} {c} : ex cf (.assert c) ρ = (match evT cf c ρ with
    | some true => some (ρ, .next)
    | _ => Option.none) := rfl
theorem zhW {ρ : List Slot} {b} : ex cf (.try_ b) ρ = (ex cf b ρ) := rfl
end
set_option genInjectivity false in
structure Fn where
  np : Nat
  va : Bool
  ns : Nat
  body : S
noncomputable def bindD (f : Fn) (args : List D) : Option (List Slot) :=
  if f.va then (if f.np ≤ args.length ∧ args.length ≤ lim then some (((args.take f.np).map .val ++ [.val (.tup (args.drop f.np))]) ++ List.replicate (f.ns - f.np - 1) .unset) else Option.none)
  else if args.length = f.np then some (args.map .val ++ List.replicate (f.ns - f.np) .unset) else Option.none
noncomputable def callF (fns : Nat → Option Fn) : Nat → Nat → List D → Option D
  | 0, _, _ => Option.none
  | n + 1, f, args => match fns f with
    | Option.none => Option.none
    | some fn => match bindD fn args with
      | Option.none => Option.none
      | some ρ => match ex (callF fns n) fn.body ρ with
        | some (_, .ret d) => some d
        | some (_, .next) => some .none
        | _ => Option.none
end Mine
end
section
open PySem PySem.Calls PyProof.Rows
namespace Mine
set_option genInjectivity false in
structure Cx where
  prog : Program
  w : World
  h0 : Heap
  X : Addr → Prop
  XI : Heap → Prop
  T : Nat → Addr
  mg : Str → Option Value
  mb : Str → Option Value
  fa : Nat → Addr
section
variable (T : Nat → Addr) (F : Addr → Prop) (h : Heap)
mutual
inductive Rep : Value → D → Prop
  | none : Rep .none .none
  | bool (b : Bool) : Rep (.bool b) (.bool b)
  | int (i : Int) (t : Tok) : Rep (.int i t) (.int i)
  | str {l : List Nat} (t : Tok) : (∀ c ∈ l, c < 0x110000) → l.length ≤ lim → Rep (.str ⟨l.toArray⟩ t) (.str l)
  | ty (n : String) : Rep (.type n) (.ty n)
  | list {a : Addr} {vs : List Value} {n : Nat} {ds : List D} : F a → h.get? a = some (lobj vs.toArray n) → vs.length ≤ lim → RepL vs ds → Rep (.ref a) (.list ds)
  | tup {a : Addr} {vs : List Value} {n : Nat} {ds : List D} : F a → h.get? a = some (tobj vs.toArray n) → vs.length ≤ lim → RepL vs ds → Rep (.ref a) (.tup ds)
  | tok {k : Nat} {n : Nat} {t : Tok} : F (T k) → h.get? (T k) = some (lobj #[.str ⟨(tokC k).toArray⟩ t] n) → Rep (.ref (T k)) (.tok k)
inductive RepL : List Value → List D → Prop
  | nil : RepL [] []
  | cons {v : Value} {vs : List Value} {d : D} {ds : List D} : Rep v d → RepL vs ds → RepL (v :: vs) (d :: ds)
end
end
section
variable {T : Nat → Addr} {F F' : Addr → Prop} {h h' : Heap}
theorem Rep.mono (hF : ∀ a, F a → F' a) (hk : ∀ a o, F a → h.get? a = some o → h'.get? a = some o) {v : Value} {d : D} (r : Rep T F h v d) : Rep T F' h' v d :=
  Rep.rec (motive_1 := fun v d _ => Rep T F' h' v d) (motive_2 := fun vs ds _ => RepL T F' h' vs ds) .none .bool .int (fun t q z => .str t q z) .ty (fun f g z _ i => .list (hF _ f) (hk _ _ f g) z i) (fun f g z _ i => .tup (hF _ f) (hk _ _ f g) z i) (fun f g => .tok (hF _ f) (hk _ _ f g)) .nil (fun _ _ a b => .cons a b) r
theorem RepL.mono (hF : ∀ a, F a → F' a) (hk : ∀ a o, F a → h.get? a = some o → h'.get? a = some o) {vs : List Value} {ds : List D} (r : RepL T F h vs ds) : RepL T F' h' vs ds :=
  RepL.rec (motive_1 := fun v d _ => Rep T F' h' v d) (motive_2 := fun vs ds _ => RepL T F' h' vs ds) .none .bool .int (fun t q z => .str t q z) .ty (fun f g z _ i => .list (hF _ f) (hk _ _ f g) z i) (fun f g z _ i => .tup (hF _ f) (hk _ _ f g) z i) (fun f g => .tok (hF _ f) (hk _ _ f g)) .nil (fun _ _ a b => .cons a b) r
theorem RepL.ind {motive : List Value → List D → Prop} (hn : motive [] []) (hc : ∀ {v vs d ds}, Rep T F h v d → RepL T F h vs ds → motive vs ds → motive (v :: vs) (d :: ds)) {vs : List Value} {ds : List D} (q : RepL T F h vs ds) : motive vs ds :=
  RepL.rec (motive_1 := fun _ _ _ => True) (motive_2 := fun vs ds _ => motive vs ds) trivial (fun _ => trivial) (fun _ _ => trivial) (fun _ _ _ => trivial) (fun _ => trivial) (fun _ _ _ _ _ => trivial) (fun _ _ _ _ _ => trivial) (fun _ _ => trivial) hn (fun a r _ i => hc a r i) q
theorem RepL.length {vs : List Value} {ds : List D} (q : RepL T F h vs ds) : vs.length = ds.length :=
  q.ind (motive := fun vs ds => vs.length = ds.length) rfl fun _ _ i => congrArg Nat.succ i
theorem RepL.append {vs ws : List Value} {ds es : List D} (q : RepL T F h vs ds) (k : RepL T F h ws es) : RepL T F h (vs ++ ws) (ds ++ es) :=
  q.ind (motive := fun vs ds => RepL T F h (vs ++ ws) (ds ++ es)) k fun a _ i => .cons a i
theorem RepL.get {vs : List Value} {ds : List D} (q : RepL T F h vs ds) : ∀ {k : Nat} {d : D}, ds[k]? = some d → ∃ v, vs[k]? = some v ∧ Rep T F h v d :=
  q.ind (motive := fun vs ds => ∀ {k : Nat} {d : D}, ds[k]? = some d → ∃ v, vs[k]? = some v ∧ Rep T F h v d) (fun e => nomatch e) fun a _ i => by
    intro k d e
    cases k with
    | zero => cases e; exact ⟨_, rfl, a⟩
    | succ k => exact i (k := k) e
theorem RepL.getV {vs : List Value} {ds : List D} (r : RepL T F h vs ds) {k : Nat} {v : Value} (e : vs[k]? = some v) : ∃ d, ds[k]? = some d ∧ Rep T F h v d := by
  have hk : k < vs.length := by
    rcases Nat.lt_or_ge k vs.length with q | q
    · exact q
    · rw [List.getElem?_eq_none q] at e; cases e
  have hk' : k < ds.length := r.length ▸ hk
  obtain ⟨v', e', rv⟩ := r.get (List.getElem?_eq_getElem hk')
  rw [e] at e'; cases e'
  exact ⟨_, List.getElem?_eq_getElem hk', rv⟩
theorem RepL.take {vs : List Value} {ds : List D} (n : Nat) (q : RepL T F h vs ds) : RepL T F h (vs.take n) (ds.take n) :=
  q.ind (motive := fun vs ds => ∀ n, RepL T F h (vs.take n) (ds.take n)) (fun n => by cases n <;> exact .nil) (fun a _ i n => by cases n with | zero => exact .nil | succ n => exact .cons a (i n)) n
theorem RepL.dropLast {vs : List Value} {ds : List D} (r : RepL T F h vs ds) : RepL T F h vs.dropLast ds.dropLast := by
  rw [List.dropLast_eq_take, List.dropLast_eq_take, r.length]; exact r.take _
theorem RepL.reverse {vs : List Value} {ds : List D} (q : RepL T F h vs ds) : RepL T F h vs.reverse ds.reverse :=
  q.ind (motive := fun vs ds => RepL T F h vs.reverse ds.reverse) .nil fun a _ i => by rw [List.reverse_cons, List.reverse_cons]; exact i.append (.cons a .nil)
theorem RepL.pickAt (is : List Nat) {vs : List Value} {ds : List D} (r : RepL T F h vs ds) : RepL T F h (is.filterMap (vs[·]?)) (is.filterMap (ds[·]?)) := by
  induction is with
  | nil => exact .nil
  | cons k is ih =>
    rcases Nat.lt_or_ge k ds.length with q | q
    · obtain ⟨v, e, rv⟩ := r.get (List.getElem?_eq_getElem q)
      rw [List.filterMap_cons_some e, List.filterMap_cons_some (List.getElem?_eq_getElem q)]
      exact .cons rv ih
    · rw [List.filterMap_cons_none (by simpa using r.length ▸ q), List.filterMap_cons_none (by simpa using q)]
      exact ih
theorem RepL.rep (n : Nat) {vs : List Value} {ds : List D} (r : RepL T F h vs ds) : RepL T F h (List.replicate n vs).flatten (List.replicate n ds).flatten := by
  induction n with
  | zero => simp; exact .nil
  | succ n ih => simp only [List.replicate_succ, List.flatten_cons]; exact r.append ih
theorem Rep.reads {v : Value} {d : D} {n : Nat} (r : Rep T F h v d) (q : d.ok n = true) : ∃ as, Reads h v d.toPy as := by
  have nx : ∀ {d : D} {n : Nat}, d.ok n = true → ∃ k, n = k + 1 := fun {d n} q => by
    cases n with
    | zero => unfold D.ok at q; cases q
    | succ k => exact ⟨k, rfl⟩
  refine Rep.rec (motive_1 := fun v d _ => ∀ n, d.ok n = true → ∃ as, Reads h v d.toPy as) (motive_2 := fun vs ds _ => ∀ n, D.oks n ds = true → ∃ as, ReadsAll h vs (D.toPys ds) as) (fun _ _ => ⟨[], .none⟩) (fun b _ _ => ⟨[], .bool b⟩) (fun i t _ _ => ⟨[], .int i t⟩) (fun t _ _ _ _ => ⟨[], .str _ t⟩) (fun m n q => ?_) (fun f g _ _ ih n q => ?_) (fun f g _ _ ih n q => ?_) (fun {k _ t} f g n q => ⟨_, Reads.list g rfl rfl (.cons (.str _ t) .nil)⟩) (fun _ _ => ⟨[], .nil⟩) (fun _ _ i1 i2 n q => ?_) r n q
  · obtain ⟨k, rfl⟩ := nx q; cases q
  · obtain ⟨k, rfl⟩ := nx q
    obtain ⟨as, x⟩ := ih k q
    exact ⟨_, Reads.list g rfl rfl (by rw [List.toList_toArray]; exact x)⟩
  · obtain ⟨k, rfl⟩ := nx q
    obtain ⟨as, x⟩ := ih k q
    exact ⟨_, Reads.tuple g rfl rfl (by rw [List.toList_toArray]; exact x)⟩
  · have q' := Bool.and_eq_true_iff.mp q
    obtain ⟨as, x⟩ := i1 n q'.1
    obtain ⟨bs, y⟩ := i2 n q'.2
    exact ⟨as ++ bs, .cons x y⟩
theorem RepL.reads {vs : List Value} {ds : List D} {n : Nat} (r : RepL T F h vs ds) (q : D.oks n ds = true) : ∃ as, ReadsAll h vs (D.toPys ds) as := by
  have nx : ∀ {d : D} {n : Nat}, d.ok n = true → ∃ k, n = k + 1 := fun {d n} q => by
    cases n with
    | zero => unfold D.ok at q; cases q
    | succ k => exact ⟨k, rfl⟩
  refine RepL.rec (motive_1 := fun v d _ => ∀ n, d.ok n = true → ∃ as, Reads h v d.toPy as) (motive_2 := fun vs ds _ => ∀ n, D.oks n ds = true → ∃ as, ReadsAll h vs (D.toPys ds) as) (fun _ _ => ⟨[], .none⟩) (fun b _ _ => ⟨[], .bool b⟩) (fun i t _ _ => ⟨[], .int i t⟩) (fun t _ _ _ _ => ⟨[], .str _ t⟩) (fun m n q => ?_) (fun f g _ _ ih n q => ?_) (fun f g _ _ ih n q => ?_) (fun {k _ t} f g n q => ⟨_, Reads.list g rfl rfl (.cons (.str _ t) .nil)⟩) (fun _ _ => ⟨[], .nil⟩) (fun _ _ i1 i2 n q => ?_) r n q
  · obtain ⟨k, rfl⟩ := nx q; cases q
  · obtain ⟨k, rfl⟩ := nx q
    obtain ⟨as, x⟩ := ih k q
    exact ⟨_, Reads.list g rfl rfl (by rw [List.toList_toArray]; exact x)⟩
  · obtain ⟨k, rfl⟩ := nx q
    obtain ⟨as, x⟩ := ih k q
    exact ⟨_, Reads.tuple g rfl rfl (by rw [List.toList_toArray]; exact x)⟩
  · have q' := Bool.and_eq_true_iff.mp q
    obtain ⟨as, x⟩ := i1 n q'.1
    obtain ⟨bs, y⟩ := i2 n q'.2
    exact ⟨as ++ bs, .cons x y⟩
end
section
variable {T : Nat → Addr} {F F' : Addr → Prop} {h h' : Heap}
theorem zdW {l : List Nat} (q : ∀ c ∈ l, c < 0x110000) : PyData.strOk ⟨l.toArray⟩ = true := by
  unfold PyData.strOk
  simpa [List.all_eq_true] using q
theorem Rep.lay {v : Value} {d : D} {n : Nat} (r : Rep T F h v d) (q : d.ok n = true) : d.toPy.canLay0 = true ∧ d.toPy.depth ≤ n := by
  have nx : ∀ {d : D} {n : Nat}, d.ok n = true → ∃ k, n = k + 1 := fun {d n} q => by
    cases n with
    | zero => unfold D.ok at q; cases q
    | succ k => exact ⟨k, rfl⟩
  refine Rep.rec (motive_1 := fun v d _ => ∀ n, d.ok n = true → d.toPy.canLay0 = true ∧ d.toPy.depth ≤ n) (motive_2 := fun vs ds _ => ∀ n, D.oks n ds = true → PyData.canLayAll0 (D.toPys ds) = true ∧ PyData.depthAll (D.toPys ds) ≤ n) (fun _ _ => ⟨rfl, Nat.zero_le _⟩) (fun _ _ _ => ⟨rfl, Nat.zero_le _⟩) (fun _ _ _ _ => ⟨rfl, Nat.zero_le _⟩) (fun t p _ _ _ => ⟨zdW p, Nat.zero_le _⟩) (fun m n q => ?_) (fun f g _ _ ih n q => ?_) (fun f g _ _ ih n q => ?_) (fun {k _ t} f g n q => ?_) (fun _ _ => ⟨rfl, Nat.zero_le _⟩) (fun _ _ i1 i2 n q => ?_) r n q
  · obtain ⟨k, rfl⟩ := nx q; cases q
  · obtain ⟨k, rfl⟩ := nx q
    have := ih k q
    simp only [D.toPy, PyData.canLay0, PyData.depth]
    exact ⟨this.1, by omega⟩
  · obtain ⟨k, rfl⟩ := nx q
    have := ih k q
    simp only [D.toPy, PyData.canLay0, PyData.depth]
    exact ⟨this.1, by omega⟩
  · obtain ⟨j, rfl⟩ := nx q
    have e : PyData.strOk ⟨(tokC k).toArray⟩ = true := zdW (by cases k <;> simp [tokC])
    have hj : 0 < j := of_decide_eq_true q
    simp only [D.toPy, PyData.canLay0, PyData.canLayAll0, PyData.depth, PyData.depthAll, e, Bool.and_self, true_and]; omega
  · have q' := Bool.and_eq_true_iff.mp q
    have x := i1 n q'.1
    have y := i2 n q'.2
    simp only [D.toPys, PyData.canLayAll0, PyData.depthAll, x.1, y.1]
    exact ⟨rfl, by omega⟩
theorem RepL.lay {vs : List Value} {ds : List D} {n : Nat} (r : RepL T F h vs ds) (q : D.oks n ds = true) : PyData.canLayAll0 (D.toPys ds) = true ∧ PyData.depthAll (D.toPys ds) ≤ n := by
  have nx : ∀ {d : D} {n : Nat}, d.ok n = true → ∃ k, n = k + 1 := fun {d n} q => by
    cases n with
    | zero => unfold D.ok at q; cases q
    | succ k => exact ⟨k, rfl⟩
  refine RepL.rec (motive_1 := fun v d _ => ∀ n, d.ok n = true → d.toPy.canLay0 = true ∧ d.toPy.depth ≤ n) (motive_2 := fun vs ds _ => ∀ n, D.oks n ds = true → PyData.canLayAll0 (D.toPys ds) = true ∧ PyData.depthAll (D.toPys ds) ≤ n) (fun _ _ => ⟨rfl, Nat.zero_le _⟩) (fun _ _ _ => ⟨rfl, Nat.zero_le _⟩) (fun _ _ _ _ => ⟨rfl, Nat.zero_le _⟩) (fun t p _ _ _ => ⟨zdW p, Nat.zero_le _⟩) (fun m n q => ?_) (fun f g _ _ ih n q => ?_) (fun f g _ _ ih n q => ?_) (fun {k _ t} f g n q => ?_) (fun _ _ => ⟨rfl, Nat.zero_le _⟩) (fun _ _ i1 i2 n q => ?_) r n q
  · obtain ⟨k, rfl⟩ := nx q; cases q
  · obtain ⟨k, rfl⟩ := nx q
    have := ih k q
    simp only [D.toPy, PyData.canLay0, PyData.depth]
    exact ⟨this.1, by omega⟩
  · obtain ⟨k, rfl⟩ := nx q
    have := ih k q
    simp only [D.toPy, PyData.canLay0, PyData.depth]
    exact ⟨this.1, by omega⟩
  · obtain ⟨j, rfl⟩ := nx q
    have e : PyData.strOk ⟨(tokC k).toArray⟩ = true := zdW (by cases k <;> simp [tokC])
    have hj : 0 < j := of_decide_eq_true q
    simp only [D.toPy, PyData.canLay0, PyData.canLayAll0, PyData.depth, PyData.depthAll, e, Bool.and_self, true_and]; omega
  · have q' := Bool.and_eq_true_iff.mp q
    have x := i1 n q'.1
    have y := i2 n q'.2
    simp only [D.toPys, PyData.canLayAll0, PyData.depthAll, x.1, y.1]
    exact ⟨rfl, by omega⟩
theorem Rep.shaped {v : Value} {d : D} {n : Nat} (r : Rep T F h v d) (q : d.ok n = true) (hn : n ≤ 60) : PySem.SeqAt.shaped d.toPy = true := by
  have l := r.lay q
  unfold PySem.SeqAt.shaped
  rw [l.1, Bool.true_and]; exact decide_eq_true (by omega)
end
noncomputable def GensBare (a : Array GenState) : Prop := ∀ g ∈ a, g.bare = true
set_option genInjectivity false in
structure XCx extends Cx where
  XF : (Addr → Prop) → Heap → Prop
set_option genInjectivity false in
structure Wd (cx : XCx) (F : Addr → Prop) (s : Shared) : Prop where
  base : ∀ a o, cx.h0.get? a = some o → ¬ cx.X a → s.heap.get? a = some o
  xi : cx.XF F s.heap
  gens : GensBare s.gens
  f0 : ∀ a o, cx.h0.get? a = some o → ¬ cx.X a → F a
  lt : ∀ a, F a → ∃ o, s.heap.get? a = some o
  nx : ∀ a, F a → ¬ cx.X a
  xex : ∀ a, cx.X a → ∃ o, s.heap.get? a = some o
set_option genInjectivity false in
structure CxOk (cx : XCx) : Prop where
  xi : ∀ F F' h h', cx.XF F h → (∀ a, F a → F' a) → (∀ a o, F a ∨ cx.X a → h.get? a = some o → h'.get? a = some o) → cx.XF F' h'
  glob : cx.h0.Ns mainGlobals cx.mg
  gx : ¬ cx.X mainGlobals
  blt : cx.h0.Ns builtinsNs cx.mb
  bx : ¬ cx.X builtinsNs
  bmb : ∀ x : Str, x ≠ "__name__" → cx.mb x = bootBuiltins x
  lim : cx.h0.NoLimit
  limx : ¬ cx.X cStatics
  seer : ∀ h : Heap, (∀ a o, cx.h0.get? a = some o → ¬ cx.X a → h.get? a = some o) → h.NoSeer
  tree : cx.prog.given.tree = none
  nb : ∃ mc, cx.h0.Ns cStatics mc ∧ mc sharingNotToldKey = none
  tinj : ∀ i j, cx.T i = cx.T j → i = j
set_option genInjectivity false in
structure Step (cx : XCx) (F : Addr → Prop) (s : Shared) (F' : Addr → Prop) (s' : Shared) : Prop where
  sub : ∀ a, F a → F' a
  new : ∀ a, F' a → F a ∨ s.heap.get? a = none
  keep : ∀ a o, s.heap.get? a = some o → ¬ cx.X a → s'.heap.get? a = some o
  os : s'.os = s.os
  wd : Wd cx F' s'
theorem zaz (h : Heap) : h.get? h.objs.size = none := by
  cases e : h.get? h.objs.size with
  | none => rfl
  | some o => exact absurd (Heap.lt_size e) (Nat.lt_irrefl _)
section
variable {cx : XCx} {F F' F'' : Addr → Prop} {s s' s'' : Shared}
theorem Step.refl (w : Wd cx F s) : Step cx F s F s := ⟨fun _ h => h, fun _ h => .inl h, fun _ _ e _ => e, rfl, w⟩
theorem Step.fresh (x : Step cx F s F' s') {a : Addr} (nx : ¬ cx.X a) (h : s'.heap.get? a = none) : s.heap.get? a = none := by
  cases e : s.heap.get? a with
  | none => rfl
  | some o => rw [x.keep a o e nx] at h; cases h
theorem Step.trans (x : Step cx F s F' s') (y : Step cx F' s' F'' s'') : Step cx F s F'' s'' :=
  ⟨fun a h => y.sub a (x.sub a h), fun a h => by
    rcases y.new a h with q | q
    · exact x.new a q
    · exact .inr (x.fresh (y.wd.nx a h) q), fun a o e nx => y.keep a o (x.keep a o e nx) nx, y.os.trans x.os, y.wd⟩
theorem Wd.toks (w : Wd cx F s) (k : Nat) : Wd cx F { s with toks := k } := ⟨w.base, w.xi, w.gens, w.f0, w.lt, w.nx, w.xex⟩
theorem Step.toks (x : Step cx F s F' s') (k : Nat) : Step cx F s F' { s' with toks := k } := ⟨x.sub, x.new, x.keep, x.os, x.wd.toks k⟩
theorem Step.rep (x : Step cx F s F' s') (w : Wd cx F s) {v : Value} {d : D} (r : Rep cx.T F s.heap v d) : Rep cx.T F' s'.heap v d := r.mono x.sub fun a o f e => x.keep a o e (w.nx a f)
theorem Step.repL (x : Step cx F s F' s') (w : Wd cx F s) {v : List Value} {d : List D} (r : RepL cx.T F s.heap v d) : RepL cx.T F' s'.heap v d := r.mono x.sub fun a o f e => x.keep a o e (w.nx a f)
theorem Step.grown (ok : CxOk cx) (w : Wd cx F s) {h' : Heap} (k : Nat) (hk : ∀ a o, s.heap.get? a = some o → h'.get? a = some o) : Step cx F s F { s with heap := h', toks := k } :=
  ⟨fun _ h => h, fun _ h => .inl h, fun a o e _ => hk a o e, rfl, ⟨fun a o e nx => hk a o (w.base a o e nx), ok.xi _ _ _ _ w.xi (fun _ h => h) (fun a o _ e => hk a o e), w.gens, w.f0, fun a f => let ⟨o, e⟩ := w.lt a f; ⟨o, hk a o e⟩, w.nx, fun a f => let ⟨o, e⟩ := w.xex a f; ⟨o, hk a o e⟩⟩⟩
theorem Step.push (ok : CxOk cx) (w : Wd cx F s) (o : Obj) (k : Nat) : Step cx F s F { s with heap := s.heap.push o, toks := k } :=
  Step.grown ok w k fun _ _ e => Heap.get?_push_of_some o e
theorem Wd.newNotX (w : Wd cx F s) {a : Addr} (h : s.heap.get? a = none) : ¬ cx.X a := fun x => by
  obtain ⟨o, e⟩ := w.xex a x
  rw [e] at h; cases h
theorem Wd.newNotF (w : Wd cx F s) {a : Addr} (h : s.heap.get? a = none) : ¬ F a := fun x => by
  obtain ⟨o, e⟩ := w.lt a x
  rw [e] at h; cases h
theorem Step.freeze (ok : CxOk cx) (w : Wd cx F s) (x : Step cx F s F' s') {a : Addr} {o : Obj} (h1 : s.heap.get? a = none) (h2 : s'.heap.get? a = some o) : Step cx F s (fun b => F' b ∨ b = a) s' :=
  ⟨fun b h => .inl (x.sub b h), fun b h => h.elim (x.new b) fun e => .inr (e ▸ h1), x.keep, x.os,
    ⟨x.wd.base, ok.xi _ _ _ _ x.wd.xi (fun _ h => .inl h) (fun _ _ _ e => e), x.wd.gens, fun b o h nx => .inl (x.wd.f0 b o h nx), fun b h => h.elim (x.wd.lt b) fun e => e ▸ ⟨o, h2⟩,
      fun b h => h.elim (x.wd.nx b) fun e => e ▸ w.newNotX h1, x.wd.xex⟩⟩
theorem Step.notF (x : Step cx F s F' s') {a : Addr} {o : Obj} (h : ¬ F a) (hl : s.heap.get? a = some o) : ¬ F' a := fun h' => by
  rcases x.new a h' with q | q
  · exact h q
  · rw [hl] at q; cases q
theorem Wd.glob (ok : CxOk cx) (w : Wd cx F s) : s.heap.Ns mainGlobals cx.mg := ok.glob.at' fun o e => w.base _ o e ok.gx
theorem Wd.blt (ok : CxOk cx) (w : Wd cx F s) : s.heap.Ns builtinsNs cx.mb := ok.blt.at' fun o e => w.base _ o e ok.bx
theorem Wd.lim (ok : CxOk cx) (w : Wd cx F s) : s.heap.NoLimit := ok.lim.at fun o e => w.base _ o e ok.limx
end
inductive BRep (cx : XCx) (F : Addr → Prop) (h : Heap) : Value → D → Prop
  | rep {v : Value} {d : D} : Rep cx.T F h v d → BRep cx F h v d
  | own {a : Addr} {vs : List Value} {n : Nat} {l : List D} : ¬ cx.X a → h.get? a = some (lobj vs.toArray n) → vs.length ≤ lim → RepL cx.T F h vs l → BRep cx F h (.ref a) (.list l)
inductive BRepL (cx : XCx) (F : Addr → Prop) (h : Heap) : List Value → List D → Prop
  | nil : BRepL cx F h [] []
  | cons {v : Value} {vs : List Value} {d : D} {ds : List D} : BRep cx F h v d → BRepL cx F h vs ds → BRepL cx F h (v :: vs) (d :: ds)
inductive RepR (cx : XCx) (F : Addr → Prop) (lo : Heap) (h : Heap) : Value → R → Prop
  | val {v : Value} {d : D} : Rep cx.T F h v d → RepR cx F lo h v (.val d)
  | own {a : Addr} {vs : List Value} {n : Nat} {l : List D} : lo.get? a = none → ¬ F a → ¬ cx.X a → h.get? a = some (lobj vs.toArray n) → vs.length ≤ lim → RepL cx.T F h vs l → RepR cx F lo h (.ref a) (.own l)
  | bor {a : Addr} {vs : List Value} {n : Nat} {l : List D} : ¬ cx.X a → h.get? a = some (lobj vs.toArray n) → vs.length ≤ lim → RepL cx.T F h vs l → RepR cx F lo h (.ref a) (.bor l)
section
variable {cx : XCx} {F F' F'' : Addr → Prop} {s s' s'' : Shared} {v : Value} {d : D} {r : R} {lo : Heap} {vs : List Value} {ds : List D}
theorem Step.brep (x : Step cx F s F' s') (w : Wd cx F s) (b : BRep cx F s.heap v d) : BRep cx F' s'.heap v d := by
  cases b with
  | rep q => exact .rep (x.rep w q)
  | own nx e z q => exact .own nx (x.keep _ _ e nx) z (x.repL w q)
theorem RepR.brep {h : Heap} (q : RepR cx F lo h v r) : BRep cx F h v r.ds := by
  cases q with
  | val q => exact .rep q
  | own _ _ nx e z q => exact .own nx e z q
  | bor nx e z q => exact .own nx e z q
theorem RepR.step (x : Step cx F s F' s') (w : Wd cx F s) (q : RepR cx F lo s.heap v r) : RepR cx F' lo s'.heap v r := by
  cases q with
  | val q => exact .val (x.rep w q)
  | own l nf nx e z q => exact .own l (x.notF nf e) nx (x.keep _ _ e nx) z (x.repL w q)
  | bor nx e z q => exact .bor nx (x.keep _ _ e nx) z (x.repL w q)
theorem RepR.low (x : Step cx F s F' s') {F'' : Addr → Prop} {h : Heap} (q : RepR cx F'' s'.heap h v r) : RepR cx F'' s.heap h v r := by
  cases q with
  | val q => exact .val q
  | own l nf nx e z q => exact .own (x.fresh nx l) nf nx e z q
  | bor nx e z q => exact .bor nx e z q
theorem Step.fz (ok : CxOk cx) (w : Wd cx F s) (x : Step cx F s F' s') (q : RepR cx F' s.heap s'.heap v r) (e : r.fz = some d) :
    ∃ F'', Step cx F s F'' s' ∧ (∀ a, F' a → F'' a) ∧ Rep cx.T F'' s'.heap v d := by
  cases q with
  | val q => cases e; exact ⟨F', x, fun _ h => h, q⟩
  | own l nf nx g z q =>
    cases e
    exact ⟨_, x.freeze ok w l g, fun _ h => .inl h, .list (.inr rfl) g z (q.mono (fun _ h => .inl h) fun _ _ _ e => e)⟩
  | bor nx g z q => cases e
end
set_option genInjectivity false in
structure Bud (n : Nat) (A : Around) : Prop where
  hd : A.handled = none
  dp : A.depth + n < 890
  un : A.units + 10 * n + 200 < 9900
  fs : ∃ l, A.frames = some l
theorem Bud.lt {n k : Nat} {A : Around} (b : Bud n A) (h : k ≤ 200) : A.units + k < cLine := by have := b.un; show A.units + k < 9900; omega
set_option genInjectivity false in
structure BudE (n : Nat) (A : Around) : Prop extends Bud n A where
  sl : A.units + 10 * n + 207 < 9900
  fr : ∃ env l, A.frames = some (env :: l) ∧ env.scope.isGenerator = false ∧ env.scope.isCoroutine = false ∧ env.builtins = builtinsNs ∧ env.globals = mainGlobals
noncomputable def Post (cx : XCx) (F : Addr → Prop) (s : Shared) (r : R) (Q : Value → Shared → Prop) : Prop :=
  ∀ v F' s', Step cx F s F' s' → RepR cx F' s.heap s'.heap v r → Q v s'
noncomputable def Ev (cx : XCx) (A : Around) (F : Addr → Prop) (s : Shared) (t : Sem Value) (r : R) : Prop := ∀ Q E, Post cx F s r Q → wpAny (model cx.prog cx.w) A t Q E s
noncomputable def EvB (cx : XCx) (A : Around) (F : Addr → Prop) (s : Shared) (t : Sem Bool) (b : Bool) : Prop := ∀ Q E, (∀ F' s', Step cx F s F' s' → Q b s') → wpAny (model cx.prog cx.w) A t Q E s
set_option genInjectivity false in
structure Sc where
  kinds : List (Str × NameKind)
  vars : List (Str × Nat)
  code : Option (Addr × PySem.Str) := none
inductive SlotRep (cx : XCx) (F : Addr → Prop) (h : Heap) (ad : Nat → Addr) (i : Nat) : Option Value → Slot → Prop
  | unset {ov : Option Value} : SlotRep cx F h ad i ov .unset
  | val {v : Value} {d : D} : Rep cx.T F h v d → SlotRep cx F h ad i (some v) (.val d)
  | own {vs : List Value} {n : Nat} {l : List D} : ¬ F (ad i) → ¬ cx.X (ad i) → h.get? (ad i) = some (lobj vs.toArray n) → vs.length ≤ lim → RepL cx.T F h vs l → SlotRep cx F h ad i (some (.ref (ad i))) (.own l)
  | app {b : Addr} {o : Obj} {j : Nat} : F b → h.get? b = some o → o = appObj (ad j) → SlotRep cx F h ad i (some (.ref b)) (.app j)
noncomputable def slotAt (ρ : List Slot) (i : Nat) : Slot := ρ.getD i .unset
set_option genInjectivity false in
structure EnvOK (cx : XCx) (ε : Sc) (env : Env) (F : Addr → Prop) (h : Heap) (ρ : List Slot) (ad : Nat → Addr) (m cm : Str → Option Value) : Prop where
  kind : env.scope.kind = .function
  names : env.scope.names = ε.kinds
  glob : env.globals = mainGlobals
  blt : env.builtins = builtinsNs
  code : ∀ c q, ε.code = some (c, q) → env.code = .ref c ∧ env.qual = q
  lx : ¬ cx.X env.locals
  cxx : ∀ n c, env.cells.lookup n = some c → ¬ cx.X c
  ns : h.Ns env.locals m
  cells : ∀ n c, env.cells.lookup n = some c → h.IsCell c (cm n)
  vars : ∀ x i, ε.vars.lookup x = some i →
    (ε.kinds.lookup x = some .local ∧ SlotRep cx F h ad i (m x) (slotAt ρ i)) ∨
    ((ε.kinds.lookup x = some .cell ∨ ε.kinds.lookup x = some .free) ∧ (∃ c, env.cells.lookup x = some c) ∧ SlotRep cx F h ad i (cm x) (slotAt ρ i))
section
variable {cx : XCx} {F F' : Addr → Prop} {s s' : Shared} {ε : Sc} {env : Env} {ρ : List Slot} {ad : Nat → Addr} {m cm : Str → Option Value}
theorem SlotRep.step {i : Nat} {ov : Option Value} {sl : Slot} (x : Step cx F s F' s') (w : Wd cx F s) (q : SlotRep cx F s.heap ad i ov sl) : SlotRep cx F' s'.heap ad i ov sl := by
  cases q with
  | unset => exact .unset
  | val q => exact .val (x.rep w q)
  | own nf nx g z q => exact .own (x.notF nf g) nx (x.keep _ _ g nx) z (x.repL w q)
  | app f g e => exact .app (x.sub _ f) (x.keep _ _ g (w.nx _ f)) e
theorem RepR.pushOwn (w : Wd cx F s) {vs : List Value} {l : List D} (z : vs.length ≤ lim) (q : RepL cx.T F s.heap vs l) : RepR cx F s.heap (s.heap.push (lobj vs.toArray 0)) (.ref s.heap.objs.size) (.own l) :=
  .own (n := 0) (zaz _) (w.newNotF (zaz _)) (w.newNotX (zaz _)) (Heap.get?_push_size _ rfl) z (q.mono (fun _ h => h) fun _ _ _ e => Heap.get?_push_of_some _ e)
theorem EnvOK.step (x : Step cx F s F' s') (w : Wd cx F s) (e : EnvOK cx ε env F s.heap ρ ad m cm) : EnvOK cx ε env F' s'.heap ρ ad m cm :=
  ⟨e.kind, e.names, e.glob, e.blt, e.code, e.lx, e.cxx, e.ns.at' fun o g => x.keep _ o g e.lx, fun n c hc => let ⟨o, g, d⟩ := e.cells n c hc; ⟨o, x.keep _ o g (e.cxx n c hc), d⟩,
    fun y i hy => (e.vars y i hy).imp (fun ⟨k, q⟩ => ⟨k, q.step x w⟩) fun ⟨k, c, q⟩ => ⟨k, c, q.step x w⟩⟩
end
noncomputable def FnAt (cx : XCx) (f : Nat) : Prop := ∃ o fd, cx.h0.get? (cx.fa f) = some o ∧ o.data = .func fd ∧ ¬ cx.X (cx.fa f)
noncomputable def CallOK (cx : XCx) (n : Nat) (cf : Nat → List D → Option D) : Prop :=
  ∀ f args d, cf f args = some d → FnAt cx f ∧ ∀ A F s vs, Bud n A → Wd cx F s → RepL cx.T F s.heap vs args → ∀ (Rs : Result → Shared → Prop), (∀ v F' s', Step cx F s F' s' → Rep cx.T F' s'.heap v d → Rs (.ok (.ret v)) s') →
    codeAny (model cx.prog cx.w) A (.call (.ref (cx.fa f)) ⟨vs, []⟩) Rs s
set_option genInjectivity false in
structure Here (cx : XCx) (ε : Sc) (n : Nat) (cf : Nat → List D → Option D) (A : Around) (env : Env) (F : Addr → Prop) (s : Shared) (ρ : List Slot) (ad : Nat → Addr) (m cm : Str → Option Value) : Prop where
  ok : CxOk cx
  calls : CallOK cx n cf
  bud : BudE n A
  wd : Wd cx F s
  env : EnvOK cx ε env F s.heap ρ ad m cm
theorem Here.step {cx : XCx} {ε : Sc} {n : Nat} {cf : Nat → List D → Option D} {A : Around} {env : Env} {F F' : Addr → Prop} {s s' : Shared} {ρ : List Slot} {ad : Nat → Addr} {m cm : Str → Option Value}
    (H : Here cx ε n cf A env F s ρ ad m cm) (x : Step cx F s F' s') : Here cx ε n cf A env F' s' ρ ad m cm := ⟨H.ok, H.calls, H.bud, x.wd, H.env.step x H.wd⟩
noncomputable def SoundE (cx : XCx) (ε : Sc) (e : Expr) (x : X) : Prop :=
  ∀ n cf A env F s ρ ad m cm, Here cx ε n cf A env F s ρ ad m cm → ∀ r, ev cf x ρ = some [r] → Ev cx A F s (eval e env) r
noncomputable def SoundT (cx : XCx) (ε : Sc) (e : Expr) (x : X) : Prop :=
  ∀ n cf A env F s ρ ad m cm, Here cx ε n cf A env F s ρ ad m cm → ∀ b, evT cf x ρ = some b → EvB cx A F s (isTrue e env (eval e env)) b
set_option genInjectivity false in
structure Sound (cx : XCx) (ε : Sc) (e : Expr) (x : X) : Prop where
  ev : SoundE cx ε e x
  tr : SoundT cx ε e x
section
variable {cx : XCx} {A : Around} {F F' : Addr → Prop} {s s' : Shared} {t : Sem Value} {r : R}
theorem Ev.here (w : Wd cx F s) {v : Value} (q : RepR cx F s.heap s.heap v r) : Ev cx A F s (pure v) r := fun _ _ h => wpAny_pure (h v F s (Step.refl w) q)
theorem Post.after {Q : Value → Shared → Prop} (x : Step cx F s F' s') (h : Post cx F s r Q) : Post cx F' s' r Q := fun v F'' s'' y q => h v F'' s'' (x.trans y) (q.low x)
theorem Ev.bind {α : Type} {k : Value → Sem α} {Q : α → Shared → Prop} {E : Value → Shared → Prop} (h : Ev cx A F s t r)
    (g : ∀ v F' s', Step cx F s F' s' → RepR cx F' s.heap s'.heap v r → wpAny (model cx.prog cx.w) A (k v) Q E s') : wpAny (model cx.prog cx.w) A (t >>= k) Q E s :=
  wpAny_bind (h _ _ g)
end
inductive EvOp (cf : Nat → List D → Option D) (ρ : List Slot) (o : Op) (a : X) (r : R) : Prop
  | mk (rs : List R) (e : ev cf a ρ = some rs) (h : opF o (rs.map R.ds) = some r)
inductive EvCons (cf : Nat → List D → Option D) (ρ : List Slot) (a b : X) (rs : List R) : Prop
  | mk (x : R) (xs : List R) (ea : ev cf a ρ = some [x]) (eb : ev cf b ρ = some xs) (e : rs = x :: xs)
inductive ListInv (cx : XCx) (F : Addr → Prop) (h : Heap) (v : Value) (l : List D) : Prop
  | mk (a : Addr) (vs : List Value) (n : Nat) (e : v = .ref a) (nx : ¬ cx.X a) (g : h.get? a = some (lobj vs.toArray n)) (z : vs.length ≤ lim) (q : RepL cx.T F h vs l)
inductive TupInv (cx : XCx) (F : Addr → Prop) (h : Heap) (v : Value) (l : List D) : Prop
  | mk (a : Addr) (vs : List Value) (n : Nat) (e : v = .ref a) (f : F a) (g : h.get? a = some (tobj vs.toArray n)) (z : vs.length ≤ lim) (q : RepL cx.T F h vs l)
inductive StrInv (v : Value) (l : List Nat) : Prop
  | mk (t : Tok) (e : v = .str ⟨l.toArray⟩ t) (p : ∀ c ∈ l, c < 0x110000) (z : l.length ≤ lim)
inductive TwoInv (cx : XCx) (F : Addr → Prop) (h : Heap) (vs : List Value) (a b : D) : Prop
  | mk (x y : Value) (e : vs = [x, y]) (qa : BRep cx F h x a) (qb : BRep cx F h y b)
section
variable {cf : Nat → List D → Option D} {ρ : List Slot}
theorem ev_op {o : Op} {a : X} {r : R} (h : ev cf (.op o a) ρ = some [r]) : EvOp cf ρ o a r := by
  replace h := (zci _).symm.trans h
  split at h
  · rename_i rs e
    obtain ⟨r', e', h'⟩ := Option.map_eq_some_iff.mp h
    cases h'
    exact ⟨rs, e, e'⟩
  · cases h
theorem zaR {a b : X} {rs : List R} (h : ev cf (.cons a b) ρ = some rs) : EvCons cf ρ a b rs := by
  replace h := (za5 _).symm.trans h
  split at h
  · rename_i x e
    obtain ⟨xs, e', h'⟩ := Option.map_eq_some_iff.mp h
    exact ⟨x, xs, e, e', h'.symm⟩
  · cases h
theorem zcr {rs : List R} (h : ev cf .nil ρ = some rs) : rs = [] := by replace h := (zbM _).symm.trans h; cases h; rfl
end
noncomputable def op1 (f : Value → Sem Value) : List Value → Sem Value
  | [a] => f a
  | _ => unsupported "mine"
noncomputable def op2 (f : Value → Value → Sem Value) : List Value → Sem Value
  | [a, b] => f a b
  | _ => unsupported "mine"
noncomputable def OpOK (cx : XCx) (o : Op) (t : List Value → Sem Value) : Prop :=
  ∀ n A F s vs ds r, CxOk cx → BudE n A → Wd cx F s → BRepL cx F s.heap vs ds → opF o ds = some r → Ev cx A F s (t vs) r
theorem sz_lt {n : Nat} (h : n ≤ lim) : (n : Int) < 2 ^ 63 := by unfold lim at h; omega
theorem zaA {n : Nat} (h : n ≤ lim) : n ≤ sizeLine := by rw [sizeLine_eq]; unfold lim at h; omega
section
variable {cx : XCx} {F : Addr → Prop} {s : Shared} {h : Heap} {v : Value} {A : Around}
theorem zaI {a : Addr} {vs : List Value} {n : Nat} (g : h.get? a = some (lobj vs.toArray n)) : h.IsList a vs.toArray := ⟨_, g, rfl, n, rfl⟩
theorem zfP {a : Addr} {vs : List Value} {n : Nat} (g : h.get? a = some (tobj vs.toArray n)) : IsTup h a vs.toArray := ⟨_, g, rfl, n, rfl⟩
theorem BRep.list_inv (w : Wd cx F s) {l : List D} (b : BRep cx F s.heap v (.list l)) : ListInv cx F s.heap v l := by
  cases b with
  | rep q =>
    cases q with
    | list f g z q => exact ⟨_, _, _, rfl, w.nx _ f, g, z, q⟩
  | own nx g z q => exact ⟨_, _, _, rfl, nx, g, z, q⟩
theorem BRep.tup_inv {l : List D} (b : BRep cx F h v (.tup l)) : TupInv cx F h v l := by
  cases b with
  | rep q =>
    cases q with
    | tup f g z q => exact ⟨_, _, _, rfl, f, g, z, q⟩
theorem BRep.str_inv {l : List Nat} (b : BRep cx F h v (.str l)) : StrInv v l := by
  cases b with
  | rep q => cases q with | str t p z => exact ⟨t, rfl, p, z⟩
theorem BRep.int_inv {i : Int} (b : BRep cx F h v (.int i)) : ∃ t, v = .int i t := by
  cases b with
  | rep q => cases q with | int _ t => exact ⟨t, rfl⟩
theorem BRep.bool_inv {i : Bool} (b : BRep cx F h v (.bool i)) : v = .bool i := by
  cases b with
  | rep q => cases q with | bool _ => rfl
theorem BRep.none_inv (b : BRep cx F h v .none) : v = .none := by
  cases b with
  | rep q => cases q with | none => rfl
theorem BRep.ty_inv {n : String} (b : BRep cx F h v (.ty n)) : v = .type n := by
  cases b with
  | rep q => cases q with | ty _ => rfl
theorem BRepL.two {vs : List Value} {a b : D} (q : BRepL cx F h vs [a, b]) : TwoInv cx F h vs a b := by
  cases q with
  | cons p q => cases q with | cons p' q => cases q; exact ⟨_, _, rfl, p, p'⟩
theorem BRepL.one {vs : List Value} {a : D} (q : BRepL cx F h vs [a]) : ∃ x, vs = [x] ∧ BRep cx F h x a := by
  cases q with
  | cons p q => cases q; exact ⟨_, rfl, p⟩
theorem zbI (w : Wd cx F s) {d : D} {b : Bool} (q : BRep cx F s.heap v d) (e : d.truth = some b) : EvB cx A F s (truthy v) b := by
  intro Q E hQ
  cases d with
  | none => cases e; rw [q.none_inv]; exact PyProof.Rows.truthy_none (hQ F s (Step.refl w))
  | bool b => cases e; rw [q.bool_inv]; exact wpAny_truthy_bool (hQ F s (Step.refl w))
  | int i =>
    obtain ⟨t, rfl⟩ := q.int_inv
    cases e
    refine PyProof.Rows.truthy_int ?_
    have := hQ F s (Step.refl w)
    by_cases hi : i = 0
    · subst hi; exact this
    · have e1 : (i != 0) = true := bne_iff_ne.mpr hi
      rw [e1]
      simpa [hi] using this
  | str l =>
    obtain ⟨t, rfl, p, z⟩ := q.str_inv
    cases e
    refine P.truthy_str (by have := sz_lt z; show ¬ ((l.toArray.size : Nat) : Int) ≥ 2 ^ 63; rw [List.size_toArray]; omega) ?_
    have e : (((PySem.Str.mk l.toArray).length : Int) != 0) = !l.isEmpty := by
      show (((l.toArray.size : Nat) : Int) != 0) = _
      rw [List.size_toArray]
      cases l <;> simp <;> omega
    rw [e]
    exact hQ F _ ((Step.refl w).toks _)
  | list l =>
    obtain ⟨a, vs, n, rfl, nx, g, z, ql⟩ := q.list_inv w
    cases e
    refine wpAny_truthy_list (zaI g) (by rw [List.size_toArray]; exact sz_lt z) ?_
    have e : (!vs.toArray.isEmpty) = !l.isEmpty := by
      have := ql.length
      clear q
      cases vs <;> cases l <;> simp_all
    rw [e]
    exact hQ F _ ((Step.refl w).toks _)
  | tup l =>
    obtain ⟨a, vs, n, rfl, f, g, z, ql⟩ := q.tup_inv
    cases e
    refine PyProof.Rows.truthy_tuple (zfP g) (by rw [List.size_toArray]; exact sz_lt z) ?_
    have e : (!vs.toArray.isEmpty) = !l.isEmpty := by
      have := ql.length
      clear q
      cases vs <;> cases l <;> simp_all
    rw [e]
    exact hQ F _ ((Step.refl w).toks _)
  | tok k => cases e
  | ty n => cases e
end
section
variable {cx : XCx} {ε : Sc}
theorem SoundT.ofE {e : Expr} {x : X} (h : SoundE cx ε e x) (hf : ∀ env, isTrue e env (eval e env) = (do let v ← eval e env; standAt e.pos; holding [v] (truthy v))) : SoundT cx ε e x := by
  intro n cf A env F s ρ ad m cm H b hb Q E hQ
  unfold evT truthR at hb
  split at hb
  · rename_i r e
    rw [hf]
    refine Ev.bind (h n cf A env F s ρ ad m cm H r e) fun v F' s' st q => ?_
    exact wpAny_bind (wpAny_standAt (wpAny_holding (zbI st.wd q.brep hb _ _ fun F'' s'' st' => hQ F'' s'' (st.trans st'))))
  · cases hb
theorem Sound.ofE {e : Expr} {x : X} (h : SoundE cx ε e x) (hf : ∀ env, isTrue e env (eval e env) = (do let v ← eval e env; standAt e.pos; holding [v] (truthy v))) : Sound cx ε e x := ⟨h, SoundT.ofE h hf⟩
noncomputable def constD : Const → Option D
  | .none => some .none
  | .bool b => some (.bool b)
  | .int i => some (.int i)
  | .str x => if x.cps.toList.all (fun c => decide (c < 0x110000)) && decide (x.cps.size ≤ lim) then some (.str x.cps.toList) else none
  | _ => none
theorem zab {c : Const} {k : Nat} {pos : Pos} {d : D} (hd : constD c = some d) : Sound cx ε (.Constant c k pos) (.const d) := by
  refine Sound.ofE ?_ fun _ => rfl
  intro n cf A env F s ρ ad m cm H r hr Q E hQ
  replace hr := (zaJ _).symm.trans hr
  cases hr
  cases c <;> try cases hd
  · exact wpAny_pure (hQ _ F s (Step.refl H.wd) (.val .none))
  · exact wpAny_pure (hQ _ F s (Step.refl H.wd) (.val (.bool _)))
  · exact wpAny_Constant_int (hQ _ F _ ((Step.refl H.wd).toks _) (.val (.int _ _)))
  · rename_i x
    replace hd : (if (x.cps.toList.all (fun c => decide (c < 0x110000)) && decide (x.cps.size ≤ lim)) = true then some (D.str x.cps.toList) else none) = some d := hd
    split at hd
    · rename_i q
      cases hd
      simp only [Bool.and_eq_true, List.all_eq_true, decide_eq_true_eq] at q
      refine Calls.Constant_str (hQ _ F _ ((Step.refl H.wd).toks _) (.val ?_))
      exact Rep.str (l := x.cps.toList) _ q.1 (by rw [Array.length_toList]; exact q.2)
    · cases hd
theorem zd1 {n cf A env F s ρ ad m cm} (H : Here cx ε n cf A env F s ρ ad m cm) {x : Str} {i : Nat} (hv : ε.vars.lookup x = some i) (hn : (x == ("__classdict__" : Str)) = false) {Q : Value → Shared → Prop} {E : Value → Shared → Prop}
    (h : ∀ v, SlotRep cx F s.heap ad i (some v) (slotAt ρ i) → Q v s) (hs : slotAt ρ i ≠ .unset) : wpAny (model cx.prog cx.w) A (loadName env x) Q E s := by
  have hk : env.scope.kind = .function := H.env.kind
  have key : ∀ {ov : Option Value}, SlotRep cx F s.heap ad i ov (slotAt ρ i) → ∃ v, ov = some v ∧ SlotRep cx F s.heap ad i (some v) (slotAt ρ i) := by
    intro ov q
    generalize slotAt ρ i = sl at *
    cases q with
    | unset => exact absurd rfl hs
    | val q => exact ⟨_, rfl, .val q⟩
    | own a b c d q => exact ⟨_, rfl, .own a b c d q⟩
    | app a b c => exact ⟨_, rfl, .app a b c⟩
  rcases H.env.vars x i hv with ⟨k, q⟩ | ⟨k, ⟨c, hc⟩, q⟩
  · obtain ⟨v, e, q'⟩ := key q
    exact wpAny_loadName_local hk (by unfold Env.kindOf; rw [H.env.names]; exact k) H.env.ns e (h v q')
  · obtain ⟨v, e, q'⟩ := key q
    have hcell := H.env.cells x c hc
    rw [e] at hcell
    rcases k with k | k
    · exact wpAny_loadName_cell hk (by unfold Env.kindOf; rw [H.env.names]; exact k) hc hcell (h v q')
    · exact wpAny_loadName_free hk (by unfold Env.kindOf; rw [H.env.names]; exact k) hc hcell (h v q') hn
theorem ziZ {x : Str} {i : Nat} {pos : Pos} (hv : ε.vars.lookup x = some i) (hn : (x == ("__classdict__" : Str)) = false) (hd : (x == ("__debug__" : Str)) = false) : Sound cx ε (.Name x pos) (.var i) := by
  refine Sound.ofE ?_ fun _ => rfl
  intro n cf A env F s ρ ad m cm H r hr Q E hQ
  refine wpAny_Name ?_ hd
  replace hr := (zbo _).symm.trans hr
  have hr' : ∀ sl, ρ[i]? = some sl → slotAt ρ i = sl := fun sl e => by unfold slotAt; simp [List.getD, e]
  cases hs : ρ[i]? with
  | none => rw [hs] at hr; cases hr
  | some sl =>
    rw [hs] at hr
    have hsl := hr' sl hs
    refine zd1 H hv hn (fun v q => ?_) (by rw [hsl]; intro e; subst e; cases hr)
    rw [hsl] at q
    cases q with
    | unset => cases hr
    | val q => cases hr; exact hQ v F s (Step.refl H.wd) (.val q)
    | own nf nx g z q => cases hr; exact hQ _ F s (Step.refl H.wd) (.bor nx g z q)
    | app a b c => cases hr
theorem run2 {n cf A env F s ρ ad m cm} (H : Here cx ε n cf A env F s ρ ad m cm) {l r : Expr} {xl xr : X} {o : Op} {res : R} {f : Value → Value → Sem Value} (hl : SoundE cx ε l xl) (hr : SoundE cx ε r xr) (ho : OpOK cx o (op2 f))
    (he : ev cf (.op o (.cons xl (.cons xr .nil))) ρ = some [res]) {Q : Value → Shared → Prop} {E : Value → Shared → Prop} (hQ : Post cx F s res Q) :
    wpAny (model cx.prog cx.w) A (eval l env) (fun a s₁ => wpAny (model cx.prog cx.w) A (eval r env) (fun b s₂ => wpAny (model cx.prog cx.w) A (f a b) Q E s₂) E s₁) E s := by
  obtain ⟨rs, h1, h2⟩ := ev_op he
  obtain ⟨ra, xs, ha, h3, rfl⟩ := zaR h1
  obtain ⟨rb, ys, hb, h4, rfl⟩ := zaR h3
  cases zcr h4
  refine hl n cf A env F s ρ ad m cm H ra ha _ _ fun a F' s' st qa => ?_
  refine hr n cf A env F' s' ρ ad m cm (H.step st) rb hb _ _ fun b F'' s'' st' qb => ?_
  exact ho n A F'' s'' [a, b] _ res H.ok H.bud st'.wd (.cons (st'.brep st.wd qa.brep) (.cons qb.brep .nil)) h2 _ _ (hQ.after (st.trans st'))
theorem zal {l r : Expr} {op : Operator} {pos : Pos} {xl xr : X} {o : Op} (hl : Sound cx ε l xl) (hr : Sound cx ε r xr) (ho : OpOK cx o (op2 (binaryOp op))) : Sound cx ε (.BinOp l op r pos) (.op o (.cons xl (.cons xr .nil))) := by
  refine Sound.ofE ?_ fun _ => rfl
  intro n cf A env F s ρ ad m cm H res he Q E hQ
  exact wpAny_BinOp (run2 H hl.ev hr.ev ho he hQ)
theorem zae {l r : Expr} {op : CmpOp} {pos : Pos} {xl xr : X} {o : Op} (hl : Sound cx ε l xl) (hr : Sound cx ε r xr) (ho : OpOK cx o (op2 (compareOp op))) (hm : behindInMarks op r = false) : Sound cx ε (.Compare l [op] [r] pos) (.op o (.cons xl (.cons xr .nil))) := by
  have hE : SoundE cx ε (.Compare l [op] [r] pos) (.op o (.cons xl (.cons xr .nil))) := by
    intro n cf A env F s ρ ad m cm H res he Q E hQ
    exact wpAny_Compare1 (run2 H hl.ev hr.ev ho he hQ) hm
  refine ⟨hE, ?_⟩
  intro n cf A env F s ρ ad m cm H b hb Q E hQ
  unfold evT truthR at hb
  split at hb
  · rename_i res e
    refine wpAny_isTrue_Compare1 (run2 H hl.ev hr.ev ho e fun v F' s' st q => ?_) hm
    exact zbI st.wd q.brep hb _ _ fun F'' s'' st' => hQ F'' s'' (st.trans st')
  · cases hb
theorem zc1 {e : Expr} {op : UnaryOp} {pos : Pos} {x : X} {o : Op} (h : Sound cx ε e x) (ho : OpOK cx o (op1 (unaryOp op))) (hn : op ≠ .Not) : Sound cx ε (.UnaryOp op e pos) (.op o (.cons x .nil)) := by
  refine Sound.ofE ?_ fun _ => by cases op <;> first | rfl | exact absurd rfl hn
  intro n cf A env F s ρ ad m cm H res he Q E hQ
  obtain ⟨rs, h1, h2⟩ := ev_op he
  obtain ⟨ra, xs, ha, h3, rfl⟩ := zaR h1
  cases zcr h3
  show wpAny _ _ (do let v ← eval e env; standAt pos; holding [v] (unaryOp op v)) Q E s
  refine Ev.bind (h.ev n cf A env F s ρ ad m cm H ra ha) fun a F' s' st qa => ?_
  refine wpAny_bind (wpAny_standAt (wpAny_holding ?_))
  exact ho n A F' s' [a] _ res H.ok H.bud st.wd (.cons qa.brep .nil) h2 _ _ (hQ.after st)
theorem zaF {e : Expr} {pos : Pos} {x : X} (h : Sound cx ε e x) : Sound cx ε (.UnaryOp .Not e pos) (.not x) := by
  constructor
  · intro n cf A env F s ρ ad m cm H res he Q E hQ
    replace he := (za8 _).symm.trans he
    split at he
    · rename_i r e1
      obtain ⟨b, hb, h2⟩ := Option.map_eq_some_iff.mp he
      cases h2
      show wpAny _ _ (do let v ← eval e env; standAt pos; holding [v] (unaryOp .Not v)) Q E s
      refine Ev.bind (h.ev n cf A env F s ρ ad m cm H r e1) fun a F' s' st qa => ?_
      refine wpAny_bind (wpAny_standAt (wpAny_holding ?_))
      exact not_of (zbI st.wd qa.brep hb _ _ fun F'' s'' st' => hQ _ F'' s'' (st.trans st') (.val (.bool _)))
    · cases he
  · intro n cf A env F s ρ ad m cm H b hb Q E hQ
    unfold evT truthR at hb
    split at hb
    · rename_i res e1
      replace e1 := (za8 _).symm.trans e1
      split at e1
      · rename_i r e2
        obtain ⟨b', hb', h2⟩ := Option.map_eq_some_iff.mp e1
        cases h2
        simp only [R.ds, D.truth, Option.some.injEq] at hb
        subst hb
        show wpAny _ _ (do return !(← isTrue e env (eval e env))) Q E s
        refine wpAny_bind (h.tr n cf A env F s ρ ad m cm H b' (by unfold evT truthR; rw [e2]; exact hb') _ _ fun F' s' st => ?_)
        exact wpAny_pure (hQ F' s' st)
      · cases e1
    · cases hb
theorem zbZ {c t f : Expr} {pos : Pos} {xc xt xf : X} (hc : Sound cx ε c xc) (ht : Sound cx ε t xt) (hf : Sound cx ε f xf) : Sound cx ε (.IfExp c t f pos) (.ite xc xt xf) := by
  constructor
  · intro n cf A env F s ρ ad m cm H res he Q E hQ
    replace he := (zbq _).symm.trans he
    show wpAny _ _ (do if ← isTrue c env (eval c env) then eval t env else eval f env) Q E s
    split at he
    · rename_i hb
      refine wpAny_bind (hc.tr n cf A env F s ρ ad m cm H true hb _ _ fun F' s' st => ?_)
      exact ht.ev n cf A env F' s' ρ ad m cm (H.step st) res he _ _ (hQ.after st)
    · rename_i hb
      refine wpAny_bind (hc.tr n cf A env F s ρ ad m cm H false hb _ _ fun F' s' st => ?_)
      exact hf.ev n cf A env F' s' ρ ad m cm (H.step st) res he _ _ (hQ.after st)
    · cases he
  · intro n cf A env F s ρ ad m cm H b hb Q E hQ
    unfold evT at hb
    have he : ev cf (.ite xc xt xf) ρ = ev cf (.ite xc xt xf) ρ := rfl
    show wpAny _ _ (do if ← isTrue c env (eval c env) then isTrue t env (eval t env) else isTrue f env (eval f env)) Q E s
    rw [zbq] at hb
    split at hb
    · rename_i hb'
      refine wpAny_bind (hc.tr n cf A env F s ρ ad m cm H true hb' _ _ fun F' s' st => ?_)
      exact ht.tr n cf A env F' s' ρ ad m cm (H.step st) b hb _ _ fun F'' s'' st' => hQ F'' s'' (st.trans st')
    · rename_i hb'
      refine wpAny_bind (hc.tr n cf A env F s ρ ad m cm H false hb' _ _ fun F' s' st => ?_)
      exact hf.tr n cf A env F' s' ρ ad m cm (H.step st) b hb _ _ fun F'' s'' st' => hQ F'' s'' (st.trans st')
    · cases hb
inductive SoundB (cx : XCx) (ε : Sc) : BoolOp → List Expr → X → Prop
  | one {op : BoolOp} {e : Expr} {x : X} : Sound cx ε e x → SoundB cx ε op [e] x
  | and {e : Expr} {x : X} {es : List Expr} {y : X} : Sound cx ε e x → SoundB cx ε .And es y → SoundB cx ε .And (e :: es) (.and x y)
  | or {e : Expr} {x : X} {es : List Expr} {y : X} : Sound cx ε e x → SoundB cx ε .Or es y → SoundB cx ε .Or (e :: es) (.or x y)
theorem SoundB.ne {op : BoolOp} {es : List Expr} {x : X} (h : SoundB cx ε op es x) : ∃ e r, es = e :: r := by cases h <;> exact ⟨_, _, rfl⟩
theorem zey {pos : Pos} {op : BoolOp} {x y : Sem Value} {r : List (Sem Value)} : boolOp pos op (x :: y :: r) = (do
    let v ← x
    standAt pos
    let t ← holding [v] (truthy v)
    match op, t with
    | .And, false | .Or, true => pure v
    | _, _ => boolOp pos op (y :: r)) := rfl
theorem zkj {n cf A env} {pos : Pos} {op : BoolOp} {es : List Expr} {x : X} (h : SoundB cx ε op es x) :
    ∀ F s ρ ad m cm, Here cx ε n cf A env F s ρ ad m cm → ∀ r, ev cf x ρ = some [r] → Ev cx A F s (boolOp pos op (evalEach es env)) r := by
  induction h with
  | one h => intro F s ρ ad m cm H r hr; exact h.ev n cf A env F s ρ ad m cm H r hr
  | @and e x es y h1 h2 ih =>
    intro F s ρ ad m cm H r hr Q E hQ
    obtain ⟨e2, r2, rfl⟩ := h2.ne
    show wpAny _ _ (boolOp pos .And (eval e env :: eval e2 env :: evalEach r2 env)) Q E s
    rw [zey]
    replace hr := (za9 _).symm.trans hr
    split at hr
    · rename_i x1 e1
      refine Ev.bind (h1.ev n cf A env F s ρ ad m cm H x1 e1) fun v F' s' st q => ?_
      refine wpAny_bind (wpAny_standAt (wpAny_bind (wpAny_holding ?_)))
      split at hr
      · rename_i hb
        refine zbI st.wd q.brep hb _ _ fun F'' s'' st' => ?_
        exact ih F'' s'' ρ ad m cm ((H.step st).step st') r hr _ _ (hQ.after (st.trans st'))
      · rename_i hb
        cases hr
        refine zbI st.wd q.brep hb _ _ fun F'' s'' st' => ?_
        exact wpAny_pure (hQ v F'' s'' (st.trans st') (q.step st' st.wd))
      · cases hr
    · cases hr
  | @or e x es y h1 h2 ih =>
    intro F s ρ ad m cm H r hr Q E hQ
    obtain ⟨e2, r2, rfl⟩ := h2.ne
    show wpAny _ _ (boolOp pos .Or (eval e env :: eval e2 env :: evalEach r2 env)) Q E s
    rw [zey]
    replace hr := (zbE _).symm.trans hr
    split at hr
    · rename_i x1 e1
      refine Ev.bind (h1.ev n cf A env F s ρ ad m cm H x1 e1) fun v F' s' st q => ?_
      refine wpAny_bind (wpAny_standAt (wpAny_bind (wpAny_holding ?_)))
      split at hr
      · rename_i hb
        refine zbI st.wd q.brep hb _ _ fun F'' s'' st' => ?_
        exact ih F'' s'' ρ ad m cm ((H.step st).step st') r hr _ _ (hQ.after (st.trans st'))
      · rename_i hb
        cases hr
        refine zbI st.wd q.brep hb _ _ fun F'' s'' st' => ?_
        exact wpAny_pure (hQ v F'' s'' (st.trans st') (q.step st' st.wd))
      · cases hr
    · cases hr
theorem ziM {n cf A env} {op : BoolOp} {es : List Expr} {x : X} (h : SoundB cx ε op es x) :
    ∀ F s ρ ad m cm, Here cx ε n cf A env F s ρ ad m cm → ∀ b, evT cf x ρ = some b → EvB cx A F s (allTrue op es env) b := by
  induction h with
  | @one op e x h =>
    intro F s ρ ad m cm H b hb Q E hQ
    show wpAny _ _ (do
      match op, ← isTrue e env (eval e env) with
      | .And, false => pure false
      | .Or, true => pure true
      | _, _ => allTrue op [] env) Q E s
    refine wpAny_bind (h.tr n cf A env F s ρ ad m cm H b hb _ _ fun F' s' st => ?_)
    cases op <;> cases b <;> exact wpAny_pure (hQ F' s' st)
  | @and e x es y h1 h2 ih =>
    intro F s ρ ad m cm H b hb Q E hQ
    show wpAny _ _ (do
      match BoolOp.And, ← isTrue e env (eval e env) with
      | .And, false => pure false
      | .Or, true => pure true
      | _, _ => allTrue .And es env) Q E s
    unfold evT at hb
    rw [za9] at hb
    split at hb
    · rename_i x1 e1
      split at hb
      · rename_i hb'
        refine wpAny_bind (h1.tr n cf A env F s ρ ad m cm H true (by unfold evT truthR; rw [e1]; exact hb') _ _ fun F' s' st => ?_)
        exact ih F' s' ρ ad m cm (H.step st) b hb _ _ fun F'' s'' st' => hQ F'' s'' (st.trans st')
      · rename_i hb'
        refine wpAny_bind (h1.tr n cf A env F s ρ ad m cm H false (by unfold evT truthR; rw [e1]; exact hb') _ _ fun F' s' st => ?_)
        have : b = false := by
          have : some b = some false := hb.symm.trans hb'
          cases this; rfl
        subst this
        exact wpAny_pure (hQ F' s' st)
      · cases hb
    · cases hb
  | @or e x es y h1 h2 ih =>
    intro F s ρ ad m cm H b hb Q E hQ
    show wpAny _ _ (do
      match BoolOp.Or, ← isTrue e env (eval e env) with
      | .And, false => pure false
      | .Or, true => pure true
      | _, _ => allTrue .Or es env) Q E s
    unfold evT at hb
    rw [zbE] at hb
    split at hb
    · rename_i x1 e1
      split at hb
      · rename_i hb'
        refine wpAny_bind (h1.tr n cf A env F s ρ ad m cm H false (by unfold evT truthR; rw [e1]; exact hb') _ _ fun F' s' st => ?_)
        exact ih F' s' ρ ad m cm (H.step st) b hb _ _ fun F'' s'' st' => hQ F'' s'' (st.trans st')
      · rename_i hb'
        refine wpAny_bind (h1.tr n cf A env F s ρ ad m cm H true (by unfold evT truthR; rw [e1]; exact hb') _ _ fun F' s' st => ?_)
        have : b = true := by
          have : some b = some true := hb.symm.trans hb'
          cases this; rfl
        subst this
        exact wpAny_pure (hQ F' s' st)
      · cases hb
    · cases hb
theorem zaq {op : BoolOp} {es : List Expr} {x : X} {pos : Pos} (h : SoundB cx ε op es x) : Sound cx ε (.BoolOp op es pos) x :=
  ⟨fun _ _ _ _ F s ρ ad m cm H r hr => zkj h F s ρ ad m cm H r hr, fun _ _ _ _ F s ρ ad m cm H b hb => ziM h F s ρ ad m cm H b hb⟩
end
section
variable {cx : XCx}
theorem zaH : OpOK cx .add (op2 (binaryOp .Add)) := by
  intro n A F s vs ds r ok bud w q he Q E hQ
  replace he : opAdd ds = some r := he
  rcases ds with _ | ⟨a0, t0⟩
  · cases he
  cases a0 <;> try (cases he; done)
  all_goals
    rcases t0 with _ | ⟨a1, t1⟩
    · cases he
    cases a1 <;> try (cases he; done)
    rcases t1 with _ | ⟨a2, t2⟩ <;> try (cases he; done)
  · cases he
    obtain ⟨x, y, rfl, qa, qb⟩ := q.two
    obtain ⟨t, rfl⟩ := qa.int_inv
    obtain ⟨u, rfl⟩ := qb.int_inv
    exact P.add_int (hQ _ F _ ((Step.refl w).toks _) (.val (.int _ _)))
  · rename_i a b
    replace he : (if a.length + b.length ≤ lim then some (R.val (.str (a ++ b))) else none) = some r := he
    split at he <;> cases he
    rename_i hl
    obtain ⟨x, y, rfl, qa, qb⟩ := q.two
    obtain ⟨t, rfl, pa, za⟩ := qa.str_inv
    obtain ⟨u, rfl, pb, zb⟩ := qb.str_inv
    refine PyProof.Rows.add_str (fun t' tk => hQ _ F _ ((Step.refl w).toks _) (.val ?_)) (by
      show a.toArray.size + b.toArray.size ≤ sizeLine
      rw [List.size_toArray, List.size_toArray]; exact zaA hl)
    have e : (PySem.Str.mk a.toArray ++ PySem.Str.mk b.toArray) = PySem.Str.mk (a ++ b).toArray := by
      show PySem.Str.mk (a.toArray ++ b.toArray) = _
      simp
    rw [e]
    exact .str _ (fun c hc => (List.mem_append.mp hc).elim (pa c) (pb c)) (by rw [List.length_append]; exact hl)
  · rename_i a b
    replace he : (if a.length + b.length ≤ lim then some (R.own (a ++ b)) else none) = some r := he
    split at he <;> cases he
    rename_i hl
    obtain ⟨x, y, rfl, qa, qb⟩ := q.two
    obtain ⟨l, vs, k, rfl, nx, g, z, q1⟩ := qa.list_inv w
    obtain ⟨l', vs', k', rfl, nx', g', z', q2⟩ := qb.list_inv w
    have hz : vs.length + vs'.length ≤ lim := by rw [q1.length, q2.length]; exact hl
    have e : vs.toArray ++ vs'.toArray = (vs ++ vs').toArray := by simp
    refine concat_meets ⟨_, g, rfl⟩ ⟨_, g', rfl⟩ noFill_list_add seq_list_add PySem.F.slot_list_add PySem.F.entry_list_add (PySem.F.args_list_add_2 _ _) (list_addW l l' vs.toArray vs'.toArray k k' none none #[] #[] (by simpa using zaA hz)) ⟨g, g', ?_⟩
    rw [e]
    refine hQ _ F _ (Step.push ok w _ _) (.pushOwn w (by rw [List.length_append]; exact hz) (q1.append q2))
theorem zln : OpOK cx .sub (op2 (binaryOp .Sub)) := by
  intro n A F s vs ds r ok bud w q he Q E hQ
  delta opF at he; dsimp only at he
  unfold opSub at he
  split at he <;> cases he
  obtain ⟨x, y, rfl, qa, qb⟩ := q.two
  obtain ⟨t, rfl⟩ := qa.int_inv
  obtain ⟨u, rfl⟩ := qb.int_inv
  exact P.sub_int (hQ _ F _ ((Step.refl w).toks _) (.val (.int _ _)))
theorem zgk : OpOK cx .neg (op1 (unaryOp .USub)) := by
  intro n A F s vs ds r ok bud w q he Q E hQ
  delta opF at he; dsimp only at he
  unfold opNeg at he
  split at he <;> cases he
  obtain ⟨x, rfl, qa⟩ := q.one
  obtain ⟨t, rfl⟩ := qa.int_inv
  exact P.neg_int (hQ _ F _ ((Step.refl w).toks _) (.val (.int _ _)))
theorem op_div : OpOK cx .fdiv (op2 (binaryOp .FloorDiv)) := by
  intro n A F s vs ds r ok bud w q he Q E hQ
  delta opF at he; dsimp only at he
  unfold opDiv at he
  split at he
  · rename_i a b
    split at he <;> cases he
    rename_i hb
    obtain ⟨x, y, rfl, qa, qb⟩ := q.two
    obtain ⟨t, rfl⟩ := qa.int_inv
    obtain ⟨u, rfl⟩ := qb.int_inv
    obtain ⟨env, l, e1, e2, e3, e4, e5⟩ := bud.fr
    refine PyProof.Rows.floordiv_int hb (hQ _ F _ ((Step.refl w).toks _) (.val (.int _ _))) (.inr (PylongRoom.of (w.lim ok) ?_ (SeerAt.of (ok.seer _ w.base) ok.tree e1 e2 e3 e4 e5)))
    have := bud.dp
    show A.depth + 100 < 1000
    omega
  · cases he
theorem op_mod : OpOK cx .mod (op2 (binaryOp .Mod)) := by
  intro n A F s vs ds r ok bud w q he Q E hQ
  delta opF at he; dsimp only at he
  unfold opMod at he
  split at he
  · rename_i a b
    split at he <;> cases he
    rename_i hb
    obtain ⟨x, y, rfl, qa, qb⟩ := q.two
    obtain ⟨t, rfl⟩ := qa.int_inv
    obtain ⟨u, rfl⟩ := qb.int_inv
    exact PyProof.Rows.mod_int' hb (hQ _ F _ ((Step.refl w).toks _) (.val (.int _ _)))
  · cases he
theorem zfh {op : CmpOp} {f : D → D → Option Bool} {vs : List Value} {ds : List D} {F : Addr → Prop} {s : Shared} {A : Around} {r : R} (w : Wd cx F s) (q : BRepL cx F s.heap vs ds) (he : opBool f ds = some r)
    (h : ∀ x y a b c, BRep cx F s.heap x a → BRep cx F s.heap y b → f a b = some c → ∀ (Q : Value → Shared → Prop) (E : Value → Shared → Prop), (∀ k, Q (.bool c) { s with toks := k }) → wpAny (model cx.prog cx.w) A (compareOp op x y) Q E s) :
    Ev cx A F s (op2 (compareOp op) vs) r := by
  intro Q E hQ
  unfold opBool at he
  split at he
  · obtain ⟨c, hc, e⟩ := Option.map_eq_some_iff.mp he
    cases e
    obtain ⟨x, y, rfl, qa, qb⟩ := q.two
    exact h x y _ _ c qa qb hc Q E fun k => hQ _ F _ ((Step.refl w).toks k) (.val (.bool _))
  · cases he
theorem BRep.reads {F : Addr → Prop} {h : Heap} {v : Value} {d : D} {n : Nat} (q : BRep cx F h v d) (e : d.ok n = true) (hn : n ≤ 60) : (∃ as, Reads h v d.toPy as) ∧ PySem.SeqAt.shaped d.toPy = true := by
  cases q with
  | rep q => exact ⟨q.reads e, q.shaped e hn⟩
  | own nx g z q =>
    cases n with
    | zero => simp [D.ok] at e
    | succ n =>
      simp only [D.ok] at e
      obtain ⟨as, x⟩ := q.reads e
      refine ⟨⟨_, by unfold D.toPy; exact Reads.list g rfl rfl (by rw [List.toList_toArray]; exact x)⟩, ?_⟩
      have l := q.lay e
      unfold PySem.SeqAt.shaped D.toPy PyData.canLay0 PyData.depth
      rw [l.1, Bool.true_and]; exact decide_eq_true (by omega)
theorem zgo (a b : List Nat) : ((PySem.Str.mk a.toArray).cps.toList == (PySem.Str.mk b.toArray).cps.toList) = decide (a = b) := by
  show (a == b) = decide (a = b)
  by_cases h : a = b
  · subst h; simp
  · simp [h]
theorem eq_ok {F : Addr → Prop} {s : Shared} {A : Around} {n : Nat} {x y : Value} {a b : D} {c : Bool} (bud : BudE n A) (qa : BRep cx F s.heap x a) (qb : BRep cx F s.heap y b) (hc : eqD a b = some c)
    {Q : Value → Shared → Prop} {E : Value → Shared → Prop} (h : ∀ k, Q (.bool c) { s with toks := k }) : wpAny (model cx.prog cx.w) A (compareOp .Eq x y) Q E s := by
  unfold eqD at hc
  split at hc
  · cases hc
    obtain ⟨t, rfl, _, _⟩ := qa.str_inv
    obtain ⟨u, rfl, _, _⟩ := qb.str_inv
    exact P.eq_str (by rw [zgo]; exact h s.toks)
  · cases hc
    obtain ⟨t, rfl⟩ := qa.int_inv
    obtain ⟨u, rfl⟩ := qb.int_inv
    exact P.eq_int (by rw [show ∀ i j : Int, (i == j) = decide (i = j) from fun i j => rfl]; exact h s.toks)
  · split at hc <;> cases hc
    rename_i hok
    simp only [Bool.and_eq_true] at hok
    obtain ⟨⟨as, ra⟩, sa⟩ := qa.reads hok.1 (by decide)
    obtain ⟨⟨bs, rb⟩, sb⟩ := qb.reads hok.2 (by decide)
    exact PyProof.Rows.eq_dataH ra rb sa sb (bud.lt (by decide)) (h s.toks)
theorem ne_ok {F : Addr → Prop} {s : Shared} {A : Around} {n : Nat} {x y : Value} {a b : D} {c : Bool} (bud : BudE n A) (qa : BRep cx F s.heap x a) (qb : BRep cx F s.heap y b) (hc : eqD a b = some c)
    {Q : Value → Shared → Prop} {E : Value → Shared → Prop} (h : ∀ k, Q (.bool (!c)) { s with toks := k }) : wpAny (model cx.prog cx.w) A (compareOp .NotEq x y) Q E s := by
  unfold eqD at hc
  split at hc
  · cases hc
    obtain ⟨t, rfl, _, _⟩ := qa.str_inv
    obtain ⟨u, rfl, _, _⟩ := qb.str_inv
    exact P.ne_str (by show Q (.bool (!(_ == _))) s; rw [zgo]; exact h s.toks)
  · cases hc
    obtain ⟨t, rfl⟩ := qa.int_inv
    obtain ⟨u, rfl⟩ := qb.int_inv
    exact P.ne_int (by show Q (.bool (!(_ == _))) s; exact h s.toks)
  · split at hc <;> cases hc
    rename_i hok
    simp only [Bool.and_eq_true] at hok
    obtain ⟨⟨as, ra⟩, sa⟩ := qa.reads hok.1 (by decide)
    obtain ⟨⟨bs, rb⟩, sb⟩ := qb.reads hok.2 (by decide)
    exact PyProof.Rows.ne_dataH ra rb sa sb (bud.lt (by decide)) (h s.toks)
theorem op_eq : OpOK cx .eq (op2 (compareOp .Eq)) := by
  intro n A F s vs ds r ok bud w q he
  exact zfh w q he fun x y a b c qa qb hc Q E h => eq_ok bud qa qb hc h
theorem op_ne : OpOK cx .ne (op2 (compareOp .NotEq)) := by
  intro n A F s vs ds r ok bud w q he
  refine zfh w q he fun x y a b c qa qb hc Q E h => ?_
  obtain ⟨c', hc', rfl⟩ := Option.map_eq_some_iff.mp hc
  exact ne_ok bud qa qb hc' h
theorem in_ok {F : Addr → Prop} {s : Shared} {A : Around} {n : Nat} {x y : Value} {a b : D} {c : Bool} (w : Wd cx F s) (bud : BudE n A) (qa : BRep cx F s.heap x a) (qb : BRep cx F s.heap y b) (hc : inD a b = some c)
    {Q : Value → Shared → Prop} {E : Value → Shared → Prop} (h : ∀ k, Q (.bool c) { s with toks := k }) : wpAny (model cx.prog cx.w) A (compareOp .In x y) Q E s := by
  have hu : A.units + 65 < cLine := bud.lt (by decide)
  unfold inD at hc
  split at hc
  · rename_i l
    split at hc <;> cases hc
    rename_i hok
    simp only [Bool.and_eq_true] at hok
    obtain ⟨⟨as, ra⟩, sa⟩ := qa.reads hok.2 (by decide)
    obtain ⟨⟨bs, rb⟩, sb⟩ := qb.reads (n := 9) (by simp only [D.ok]; exact hok.1) (by decide)
    unfold D.toPy at rb sb
    have l1 := SeqAt.canLay_of_shaped sb
    have l2 := SeqAt.canLay_of_shaped sa
    have l3 := SeqAt.depth_of_shaped sa
    have l4 := Nat.min_le_right (PyData.depthAll (D.toPys l)) a.toPy.depth
    exact SeqAt.in_list_reads rb ra l1 l2 (by show A.units + 1 + _ < 9900; have := bud.un; omega) (h s.toks)
  · rename_i l
    split at hc <;> cases hc
    rename_i hok
    simp only [Bool.and_eq_true] at hok
    obtain ⟨⟨as, ra⟩, sa⟩ := qa.reads hok.2 (by decide)
    obtain ⟨⟨bs, rb⟩, sb⟩ := qb.reads (n := 9) (by simp only [D.ok]; exact hok.1) (by decide)
    unfold D.toPy at rb sb
    have l1 := SeqAt.canLay_of_shaped sb
    have l2 := SeqAt.canLay_of_shaped sa
    have l3 := SeqAt.depth_of_shaped sa
    have l4 := Nat.min_le_right (PyData.depthAll (D.toPys l)) a.toPy.depth
    exact SeqAt.in_tuple_reads rb ra l1 l2 (by show A.units + 1 + _ < 9900; have := bud.un; omega) (h s.toks)
  · split at hc <;> cases hc
    obtain ⟨t, rfl, _, _⟩ := qa.str_inv
    obtain ⟨u, rfl, _, _⟩ := qb.str_inv
    exact P.in_str (h s.toks)
  · cases hc
theorem zkT {F : Addr → Prop} {s : Shared} {A : Around} {n : Nat} {x y : Value} {a b : D} {c : Bool} (w : Wd cx F s) (bud : BudE n A) (qa : BRep cx F s.heap x a) (qb : BRep cx F s.heap y b) (hc : inD a b = some c)
    {Q : Value → Shared → Prop} {E : Value → Shared → Prop} (h : ∀ k, Q (.bool (!c)) { s with toks := k }) : wpAny (model cx.prog cx.w) A (compareOp .NotIn x y) Q E s := by
  have hu : A.units + 65 < cLine := bud.lt (by decide)
  unfold inD at hc
  split at hc
  · rename_i l
    split at hc <;> cases hc
    rename_i hok
    simp only [Bool.and_eq_true] at hok
    obtain ⟨⟨as, ra⟩, sa⟩ := qa.reads hok.2 (by decide)
    obtain ⟨⟨bs, rb⟩, sb⟩ := qb.reads (n := 9) (by simp only [D.ok]; exact hok.1) (by decide)
    unfold D.toPy at rb sb
    have l1 := SeqAt.canLay_of_shaped sb
    have l2 := SeqAt.canLay_of_shaped sa
    have l3 := SeqAt.depth_of_shaped sa
    have l4 := Nat.min_le_right (PyData.depthAll (D.toPys l)) a.toPy.depth
    exact SeqAt.notIn_list_reads rb ra l1 l2 (by show A.units + 1 + _ < 9900; have := bud.un; omega) (h s.toks)
  · rename_i l
    split at hc <;> cases hc
    rename_i hok
    simp only [Bool.and_eq_true] at hok
    obtain ⟨⟨as, ra⟩, sa⟩ := qa.reads hok.2 (by decide)
    obtain ⟨⟨bs, rb⟩, sb⟩ := qb.reads (n := 9) (by simp only [D.ok]; exact hok.1) (by decide)
    unfold D.toPy at rb sb
    have l1 := SeqAt.canLay_of_shaped sb
    have l2 := SeqAt.canLay_of_shaped sa
    have l3 := SeqAt.depth_of_shaped sa
    have l4 := Nat.min_le_right (PyData.depthAll (D.toPys l)) a.toPy.depth
    exact SeqAt.notIn_tuple_reads rb ra l1 l2 (by show A.units + 1 + _ < 9900; have := bud.un; omega) (h s.toks)
  · split at hc <;> cases hc
    obtain ⟨t, rfl, _, _⟩ := qa.str_inv
    obtain ⟨u, rfl, _, _⟩ := qb.str_inv
    exact P.notIn_str (h s.toks)
  · cases hc
theorem op_in : OpOK cx .in_ (op2 (compareOp .In)) := by
  intro n A F s vs ds r ok bud w q he
  exact zfh w q he fun x y a b c qa qb hc Q E h => in_ok w bud qa qb hc h
theorem zkJ : OpOK cx .notin (op2 (compareOp .NotIn)) := by
  intro n A F s vs ds r ok bud w q he
  refine zfh w q he fun x y a b c qa qb hc Q E h => ?_
  obtain ⟨c', hc', rfl⟩ := Option.map_eq_some_iff.mp hc
  exact zkT w bud qa qb hc' h
theorem zhC {op : CmpOp} {f : Int → Int → Bool} {g : List Nat → List Nat → Bool} {vs : List Value} {ds : List D} {F : Addr → Prop} {s : Shared} {A : Around} {r : R} (w : Wd cx F s) (q : BRepL cx F s.heap vs ds) (he : opCmp f g ds = some r)
    (h1 : ∀ a b t u (Q : Value → Shared → Prop) (E : Value → Shared → Prop), Q (.bool (f a b)) s → wpAny (model cx.prog cx.w) A (compareOp op (.int a t) (.int b u)) Q E s)
    (h2 : ∀ a b t u (Q : Value → Shared → Prop) (E : Value → Shared → Prop), Q (.bool (g a b)) s → wpAny (model cx.prog cx.w) A (compareOp op (.str ⟨a.toArray⟩ t) (.str ⟨b.toArray⟩ u)) Q E s) :
    Ev cx A F s (op2 (compareOp op) vs) r := by
  intro Q E hQ
  rcases ds with _ | ⟨a0, t0⟩
  · cases he
  cases a0 <;> try (cases he; done)
  all_goals
    rcases t0 with _ | ⟨a1, t1⟩
    · cases he
    cases a1 <;> try (cases he; done)
    rcases t1 with _ | ⟨a2, t2⟩ <;> try (cases he; done)
  · cases he
    obtain ⟨x, y, rfl, qa, qb⟩ := q.two
    obtain ⟨t, rfl⟩ := qa.int_inv
    obtain ⟨u, rfl⟩ := qb.int_inv
    exact h1 _ _ _ _ _ _ (hQ _ F _ (Step.refl w) (.val (.bool _)))
  · cases he
    obtain ⟨x, y, rfl, qa, qb⟩ := q.two
    obtain ⟨t, rfl, _, _⟩ := qa.str_inv
    obtain ⟨u, rfl, _, _⟩ := qb.str_inv
    exact h2 _ _ _ _ _ _ (hQ _ F _ (Step.refl w) (.val (.bool _)))
theorem op_lt : OpOK cx .lt (op2 (compareOp .Lt)) := fun n A F s vs ds r ok bud w q he =>
  zhC w q he (fun _ _ _ _ _ _ h => P.lt_int h) fun _ _ _ _ _ _ h => P.lt_str h
theorem op_le : OpOK cx .le (op2 (compareOp .LtE)) := fun n A F s vs ds r ok bud w q he =>
  zhC w q he (fun _ _ _ _ _ _ h => P.le_int h) fun _ _ _ _ _ _ h => P.le_str h
theorem op_gt : OpOK cx .gt (op2 (compareOp .Gt)) := fun n A F s vs ds r ok bud w q he =>
  zhC w q he (fun _ _ _ _ _ _ h => P.gt_int h) fun _ _ _ _ _ _ h => P.gt_str h
theorem op_ge : OpOK cx .ge (op2 (compareOp .GtE)) := fun n A F s vs ds r ok bud w q he =>
  zhC w q he (fun _ _ _ _ _ _ h => P.ge_int h) fun _ _ _ _ _ _ h => P.ge_str h
end
end Mine
end
section
open PySem PySem.Calls PyProof.Rows PySem.Builtin.Str
namespace Mine
section
variable {cx : XCx}
theorem zb8 {i : Int} (h : small i = true) : -1000000000 ≤ i ∧ i ≤ 1000000000 := by
  unfold small at h
  simpa [Bool.and_eq_true, decide_eq_true_eq] using h
theorem zhB (i : Int) (n : Nat) : place i n = seqIndex? i n := by
  rcases Int.lt_or_le i 0 with h | h
  · have h0 : ¬ 0 ≤ i := by omega
    simp only [place, seqIndex?, if_neg h0, if_pos h]
    by_cases h2 : 0 ≤ i + n
    · have h3 : i + n < n := by omega
      simp [h2, h3]
    · simp [h2]
  · have h0 : ¬ i < 0 := by omega
    simp only [place, seqIndex?, if_pos h, if_neg h0]
    by_cases h2 : i < n
    · simp [h, h2]
    · simp [h2]
theorem zkM : OpOK cx .index (op2 getItem) := by
  intro n A F s vs ds r ok bud w q he Q E hQ
  replace he : opIndex ds = some r := he
  rcases ds with _ | ⟨a0, t0⟩
  · cases he
  cases a0 <;> try (cases he; done)
  all_goals
    rcases t0 with _ | ⟨a1, t1⟩
    · cases he
    cases a1 <;> try (cases he; done)
    rcases t1 with _ | ⟨a2, t2⟩ <;> try (cases he; done)
  · rename_i l i
    replace he : (if small i then (match place i l.length with | some k => ((l[k]?).map fun c => R.val (.str [c])) | none => none) else none) = some r := he
    split at he
    · rename_i hs
      have hs := zb8 hs
      split at he
      · rename_i k hk
        obtain ⟨c, hc, e⟩ := Option.map_eq_some_iff.mp he
        cases e
        obtain ⟨x, y, rfl, qa, qb⟩ := q.two
        obtain ⟨t, rfl, p, z⟩ := qa.str_inv
        obtain ⟨u, rfl⟩ := qb.int_inv
        refine P.getItem_str (c := c) (by simp; omega) ?_ (hQ _ F _ ((Step.refl w).toks _) (.val ?_))
        · rw [zhB] at hk
          show (seqIndex? i l.toArray.size).bind _ = _
          rw [List.size_toArray, hk]
          show l.toArray[k]? = _
          simpa using hc
        · have : c ∈ l := List.mem_of_getElem? hc
          exact Rep.str (l := [c]) _ (fun d hd => by rw [List.mem_singleton.mp hd]; exact p c this) (by show 1 ≤ lim; decide)
      · cases he
    · cases he
  · rename_i l i
    replace he : (if small i then (match place i l.length with | some k => ((l[k]?).map R.val) | none => none) else none) = some r := he
    split at he
    · rename_i hs
      have hs := zb8 hs
      split at he
      · rename_i k hk
        obtain ⟨d, hc, e⟩ := Option.map_eq_some_iff.mp he
        cases e
        obtain ⟨x, y, rfl, qa, qb⟩ := q.two
        obtain ⟨a, ws, m, rfl, nx, g, z, ql⟩ := qa.list_inv w
        obtain ⟨u, rfl⟩ := qb.int_inv
        obtain ⟨v, hv, rv⟩ := ql.get hc
        have hl := ql.length
        unfold place at hk
        split at hk
        · rename_i h0
          split at hk <;> cases hk
          rename_i h1
          exact wpAny_getItem_list (zaI g) h0 (by omega) (by simpa using hv) (hQ _ F _ (Step.refl w) (.val rv))
        · rename_i h0
          split at hk <;> cases hk
          rename_i h1
          exact wpAny_getItem_list_neg (zaI g) (by omega) (by rw [List.size_toArray, hl]; omega) (by omega) (by rw [List.size_toArray, hl]; simpa using hv) (hQ _ F _ (Step.refl w) (.val rv))
      · cases he
    · cases he
  · rename_i l i
    replace he : (if small i then (match place i l.length with | some k => ((l[k]?).map R.val) | none => none) else none) = some r := he
    split at he
    · rename_i hs
      have hs := zb8 hs
      split at he
      · rename_i k hk
        obtain ⟨d, hc, e⟩ := Option.map_eq_some_iff.mp he
        cases e
        obtain ⟨x, y, rfl, qa, qb⟩ := q.two
        obtain ⟨a, ws, m, rfl, f, g, z, ql⟩ := qa.tup_inv
        obtain ⟨u, rfl⟩ := qb.int_inv
        obtain ⟨v, hv, rv⟩ := ql.get hc
        rw [zhB] at hk
        exact PyProof.Rows.getItem_tuple (zfP g) (by omega) (by omega) (by rw [List.size_toArray, ql.length]; exact hk) (by simpa using hv) (hQ _ F _ (Step.refl w) (.val rv))
      · cases he
    · cases he
theorem clip_eq (i : Int) (n : Nat) : clip i n = clipAt n i := by
  unfold clip clipAt
  by_cases h : i < 0
  · rw [if_pos h, if_pos h, Int.min_eq_left (by have := Int.add_le_add_right (Int.le_of_lt h) (n : Int); rwa [Int.zero_add] at this)]
    rcases Int.le_total 0 (i + n) with q | q
    · rw [Int.max_eq_right q]
    · rw [Int.max_eq_left q, Int.toNat_of_nonpos q]; rfl
  · rw [if_neg h, if_neg h]
    by_cases g : i < n
    · rw [if_pos g, Int.min_eq_left (Int.le_of_lt g), Int.max_eq_right (Int.not_lt.mp h)]
    · rw [if_neg g, Int.min_eq_right (Int.not_lt.mp g), Int.max_eq_right (Int.natCast_nonneg n)]; rfl
theorem zeh {F : Addr → Prop} {h : Heap} {v : Value} {d : D} {o : Option Int} (q : BRep cx F h v d) (e : partD d = some o) : IsPart v o ∧ (∃ p : Option (Int × Tok), v = partValue p ∧ p.map (·.1) = o) := by
  cases d <;> try (cases e; done)
  · cases e; rw [q.none_inv]; exact ⟨.none, none, rfl, rfl⟩
  · rename_i i
    replace e : (if small i then some (some i) else none) = some o := e
    split at e <;> cases e
    obtain ⟨t, rfl⟩ := q.int_inv
    exact ⟨.int _ t, some (_, t), rfl, rfl⟩
theorem zcF {d : D} {k n b : Nat} (h : bound d k n = some b) : ∃ o, partD d = some o ∧ b = o.elim k (clipAt n) := by
  cases d <;> try (cases h; done)
  · cases h; exact ⟨none, rfl, rfl⟩
  · rename_i i
    replace h : (if small i then some (clip i n) else none) = some b := h
    split at h <;> cases h
    rename_i hi
    exact ⟨some i, if_pos hi, clip_eq _ _⟩
theorem zdF (vs : List Value) (lo hi st : Option Int) : slicePick vs.toArray lo hi st = (pick vs lo hi st).toArray := by
  unfold slicePick pick
  simp only [List.size_toArray]
  have e : (fun a : Nat => vs.toArray[a]?) = fun a => vs[a]? := by funext a; simp
  rw [e]
theorem RepL.pick {T : Nat → Addr} {F : Addr → Prop} {h : Heap} {vs : List Value} {ds : List D} (r : RepL T F h vs ds) (lo hi st : Option Int) : RepL T F h (pick vs lo hi st) (Mine.pick ds lo hi st) := by
  unfold Mine.pick
  rw [r.length]
  exact r.pickAt _
theorem zb0 {α : Type} (l : List α) (lo hi : Option Int) : pick l lo hi none = cut l (lo.elim 0 (clipAt l.length)) (hi.elim l.length (clipAt l.length)) := by
  unfold pick cut
  rw [sliceBounds_plain]
  simp only [sliceRange_one]
  have := pick_run l.toArray (lo.elim 0 (clipAt l.length)) (hi.elim l.length (clipAt l.length) - lo.elim 0 (clipAt l.length))
  simp only [List.getElem?_toArray] at this
  exact this
theorem zfr (l : List Nat) (lo hi : Option Int) : ((strSliceIndices lo hi 1 l.length).filterMap (l[·]?)) = pick l lo hi none := rfl
theorem zg6 {α : Type} (l : List α) (lo hi : Option Int) : (pick l lo hi none).length ≤ l.length := by
  rw [zb0]; unfold cut
  exact Nat.le_trans (List.length_take_le' _ _) (by rw [List.length_drop]; exact Nat.sub_le _ _)
theorem ze4 {F : Addr → Prop} {s : Shared} {A : Around} {E : Value → Shared → Prop} {Q : Value → Shared → Prop} (ok : CxOk cx) (w : Wd cx F s) {a sl : Addr} {vs : List Value} {n : Nat} {l : List D} {vl vu vst : Value} {lo hi st : Option Int}
    (g : s.heap.get? a = some (lobj vs.toArray n)) (z : vs.length ≤ lim) (q : RepL cx.T F s.heap vs l) (hs : s.heap.IsSliceOf sl vl vu vst) (pl : IsPart vl lo) (pu : IsPart vu hi) (ps : IsPart vst st) (h0 : st ≠ some 0)
    (hQ : Post cx F s (.own (pick l lo hi st)) Q) : wpAny (model cx.prog cx.w) A (getItem (.ref a) (.ref sl)) Q E s := by
  refine wpAny_getItem_list_slice (zaI g) hs pl pu ps h0 ?_ (by rw [List.size_toArray]; exact zaA z)
  have hsz : (pick vs lo hi st).length ≤ lim := by
    have := slicePick_size_le vs.toArray lo hi st
    rw [zdF, List.size_toArray, List.size_toArray] at this
    exact Nat.le_trans this z
  rw [zdF]
  refine hQ _ F _ (Step.push ok w _ _) (.pushOwn w hsz (q.pick lo hi st))
theorem zke (n : Nat) (i : Int) : clipAt n i ≤ n := by unfold clipAt; omega
theorem zkx {a b n : Nat} (h2 : b - a = n) (hb : b ≤ n) (h : 0 < n) : a = 0 := by omega
theorem zi1 {F : Addr → Prop} {s : Shared} {A : Around} {E : Value → Shared → Prop} {Q : Value → Shared → Prop} (w : Wd cx F s) {sl : Addr} {l : List Nat} {t : Tok} {pl pu : Option (Int × Tok)}
    (p : ∀ c ∈ l, c < 0x110000) (z : l.length ≤ lim) (hs : s.heap.IsSlice sl pl pu none) (hQ : Post cx F s (.val (.str (pick l (pl.map (·.1)) (pu.map (·.1)) none))) Q) :
    wpAny (model cx.prog cx.w) A (getItem (.str ⟨l.toArray⟩ t) (.ref sl)) Q E s := by
  refine wpAny_getItem_str_slice hs (by rfl) ?_
  have hsz := zg6 l (pl.map (·.1)) (pu.map (·.1))
  have hp : ∀ c ∈ pick l (pl.map (·.1)) (pu.map (·.1)) none, c < 0x110000 := fun c hc => by
    rw [zb0] at hc; unfold cut at hc
    exact p c (List.mem_of_mem_drop (List.mem_of_mem_take hc))
  have e0 : slicePicked ⟨l.toArray⟩ pl pu none = strSliceIndices (pl.map (·.1)) (pu.map (·.1)) 1 l.length := by
    unfold slicePicked
    show strSliceIndices _ _ 1 (l.toArray.size) = _
    rw [List.size_toArray]
  have e1 : ((slicePicked ⟨l.toArray⟩ pl pu none).filterMap ((PySem.Str.mk l.toArray).cps[·]?)) = pick l (pl.map (·.1)) (pu.map (·.1)) none := by
    rw [e0, ← zfr]
    have e : (fun a : Nat => (PySem.Str.mk l.toArray).cps[a]?) = fun a => l[a]? := by funext a; simp
    rw [e]
  unfold sliceMade
  rw [e1]
  by_cases hc : ((((none : Option (Int × Tok)).map (·.1)).getD 1 == 1 && (slicePicked ⟨l.toArray⟩ pl pu none).length == (PySem.Str.mk l.toArray).length) = true)
  · rw [if_pos hc]
    simp only [Bool.and_eq_true, beq_iff_eq] at hc
    have h2 := hc.2
    rw [e0] at h2
    have e3 : strSliceIndices (pl.map (·.1)) (pu.map (·.1)) 1 l.length = sliceRange (sliceBounds (pl.map (·.1)) (pu.map (·.1)) none l.length).1 (sliceBounds (pl.map (·.1)) (pu.map (·.1)) none l.length).2.1 (sliceBounds (pl.map (·.1)) (pu.map (·.1)) none l.length).2.2 := rfl
    rw [e3, sliceBounds_plain, sliceRange_one, List.length_map, List.length_range] at h2
    have h3 : (PySem.Str.mk l.toArray).length = l.length := by show l.toArray.size = _; rw [List.size_toArray]
    rw [h3] at h2
    have hb : (pu.map (·.1)).elim l.length (clipAt l.length) ≤ l.length := by
      cases (pu.map (·.1)) with
      | none => exact Nat.le_refl _
      | some i => exact zke _ _
    have : pick l (pl.map (·.1)) (pu.map (·.1)) none = l := by
      rw [zb0]
      unfold cut
      rcases Nat.eq_zero_or_pos l.length with h | h
      · rw [List.length_eq_zero_iff.mp h]; simp
      · have e2 : (pl.map (·.1)).elim 0 (clipAt l.length) = 0 := zkx h2 hb h
        rw [e2] at h2
        rw [e2, List.drop_zero, List.take_of_length_le (Nat.le_of_eq h2.symm)]
    rw [this] at hQ
    exact hQ _ F _ (Step.refl w) (.val (.str t p z))
  · rw [if_neg hc]
    exact ⟨Nat.le_trans (by show (List.toArray _).size ≤ l.length; rw [List.size_toArray]; exact hsz) (zaA z), hQ _ F _ ((Step.refl w).toks _) (.val (.str _ hp (Nat.le_trans hsz z)))⟩
end
section
variable {cx : XCx} {ε : Sc}
theorem zd7 (slice : Expr) (o i : Value) : ∃ ops, subscripted slice false o i = operate ops (getItem o i) := by
  cases slice with
  | Slice l u st p => cases st <;> exact ⟨_, rfl⟩
  | _ => exact ⟨_, rfl⟩
noncomputable def seqD : D → Bool
  | .str _ | .list _ | .tup _ => true
  | _ => false
theorem zfp {F : Addr → Prop} {s : Shared} {A : Around} {value slice : Expr} {o i : Value} {d : D} {Q : Value → Shared → Prop} {E : Value → Shared → Prop} (w : Wd cx F s) (q : BRep cx F s.heap o d) (hd : seqD d = true)
    (h : wpAny (model cx.prog cx.w) A (getItem o i) Q E s) : wpAny (model cx.prog cx.w) A (subscriptTail value slice o i) Q E s := by
  obtain ⟨ops, hs⟩ := zd7 slice o i
  cases d with
  | str l =>
    obtain ⟨t, rfl, _, _⟩ := q.str_inv
    exact tail_any (typeIs_str s _ _) PySem.F.slot_str_getitem.lookup h hs
  | list l =>
    obtain ⟨a, vs, n, rfl, nx, g, z, _⟩ := q.list_inv w
    exact tail_any (T := "list") ⟨_, g, rfl⟩ list_getitem_lookup h hs
  | tup l =>
    obtain ⟨a, vs, n, rfl, f, g, z, _⟩ := q.tup_inv
    exact tail_any (T := "tuple") ⟨_, g, rfl⟩ PySem.F.slot_tuple_getitem.lookup h hs
  | _ => cases hd
theorem zih {d e : D} {r : R} (h : opIndex [d, e] = some r) : seqD d = true := by
  cases d <;> first | rfl | (cases h; done)
theorem zai {v i : Expr} {pos : Pos} {xv xi : X} (hv : Sound cx ε v xv) (hi : Sound cx ε i xi) : Sound cx ε (.Subscript v i pos) (.op .index (.cons xv (.cons xi .nil))) := by
  refine Sound.ofE ?_ fun _ => rfl
  intro n cf A env F s ρ ad m cm H res he Q E hQ
  obtain ⟨rs, h1, h2⟩ := ev_op he
  obtain ⟨ra, xs, ha, h3, rfl⟩ := zaR h1
  obtain ⟨rb, ys, hb, h4, rfl⟩ := zaR h3
  cases zcr h4
  refine Subscript_ ?_
  refine hv.ev n cf A env F s ρ ad m cm H ra ha _ _ fun a F' s' st qa => ?_
  refine hi.ev n cf A env F' s' ρ ad m cm (H.step st) rb hb _ _ fun b F'' s'' st' qb => ?_
  have qa' := st'.brep st.wd qa.brep
  refine zfp st'.wd qa' (zih h2) ?_
  exact zkM n A F'' s'' [a, b] _ res H.ok H.bud st'.wd (.cons qa' (.cons qb.brep .nil)) h2 _ _ (hQ.after (st.trans st'))
inductive SoundO (cx : XCx) (ε : Sc) : Option Expr → X → Prop
  | no : SoundO cx ε none (.const .none)
  | yes {e : Expr} {x : X} : Sound cx ε e x → SoundO cx ε (some e) x
theorem SoundO.run {o : Option Expr} {x : X} (h : SoundO cx ε o x) {n cf A env F s ρ ad m cm} (H : Here cx ε n cf A env F s ρ ad m cm) {r : R} (hr : ev cf x ρ = some [r]) : Ev cx A F s (evalPart o env) r := by
  cases h with
  | no => replace hr := (zaJ _).symm.trans hr; cases hr; exact Ev.here H.wd (.val .none)
  | yes h => exact h.ev n cf A env F s ρ ad m cm H r hr
theorem zdD {F : Addr → Prop} {h : Heap} {v : Value} {d : D} {o : Option Int} (q : BRep cx F h v d) (e : partD d = some o) : ∃ p : Option (Int × Tok), v = partValue p ∧ p.map (·.1) = o := (zeh q e).2
theorem zap {v : Expr} {l u : Option Expr} {p pos : Pos} {xv xl xu : X} (hv : Sound cx ε v xv) (hl : SoundO cx ε l xl) (hu : SoundO cx ε u xu) :
    Sound cx ε (.Subscript v (.Slice l u none p) pos) (.op .slice (.cons xv (.cons xl (.cons xu .nil)))) := by
  refine Sound.ofE ?_ fun _ => rfl
  intro n cf A env F s ρ ad m cm H res he Q E hQ
  obtain ⟨rs, h1, h2⟩ := ev_op he
  obtain ⟨ra, xs, ha, h3, rfl⟩ := zaR h1
  obtain ⟨rb, ys, hb, h4, rfl⟩ := zaR h3
  obtain ⟨rc, zs, hc, h5, rfl⟩ := zaR h4
  cases zcr h5
  refine Subscript_ ?_
  refine hv.ev n cf A env F s ρ ad m cm H ra ha _ _ fun a F' s' st qa => ?_
  refine wpAny_Slice ?_
  refine hl.run (H.step st) hb _ _ fun vl F1 s1 st1 ql => ?_
  refine hu.run ((H.step st).step st1) hc _ _ fun vu F2 s2 st2 qu => ?_
  refine wpAny_pure ?_
  have st3 := (st.trans st1).trans st2
  have st4 := Step.push H.ok st3.wd { cls := .type "slice", data := .fields #[vl, vu, .none] } s2.toks
  have qa' := st4.brep st3.wd ((st1.trans st2).brep st.wd qa.brep)
  have ql' := st4.brep st3.wd (st2.brep st1.wd ql.brep)
  have qu' := st4.brep st3.wd qu.brep
  have hs := Heap.IsSliceOf.new s2.heap vl vu .none
  replace h2 : opSlice [ra.ds, rb.ds, rc.ds] = some res := h2
  cases hx : ra.ds <;> rw [hx] at h2 <;> try (cases h2; done)
  · rename_i x
    rw [hx] at qa'
    replace h2 : (match bound rb.ds 0 x.length, bound rc.ds x.length x.length with | some lo, some hi => some (R.val (.str (cut x lo hi))) | _, _ => none) = some res := h2
    split at h2
    · rename_i lo hi hlo hhi
      cases h2
      obtain ⟨t, rfl, pp, z⟩ := qa'.str_inv
      refine zfp st4.wd qa' rfl ?_
      obtain ⟨ol, hol, rfl⟩ := zcF hlo
      obtain ⟨ou, hou, rfl⟩ := zcF hhi
      obtain ⟨pl, rfl, e4⟩ := zdD ql' hol
      obtain ⟨pu, rfl, e5⟩ := zdD qu' hou
      refine zi1 st4.wd (pl := pl) (pu := pu) pp z ?_ ?_
      · obtain ⟨o, h1, h2, h3⟩ := hs; exact ⟨o, h1, h2, h3⟩
      · rw [e4, e5, zb0]; exact hQ.after (st3.trans st4)
    · cases h2
  · rename_i x
    rw [hx] at qa'
    replace h2 : (match bound rb.ds 0 x.length, bound rc.ds x.length x.length with | some lo, some hi => some (R.own (cut x lo hi)) | _, _ => none) = some res := h2
    split at h2
    · rename_i lo hi hlo hhi
      cases h2
      obtain ⟨al, vs, k, rfl, nx, g, z, q⟩ := qa'.list_inv st4.wd
      refine zfp st4.wd qa' rfl ?_
      obtain ⟨ol, hol, rfl⟩ := zcF hlo
      obtain ⟨ou, hou, rfl⟩ := zcF hhi
      refine ze4 H.ok st4.wd g z q hs (zeh ql' hol).1 (zeh qu' hou).1 .none (by intro e; cases e) ?_
      rw [zb0]; exact hQ.after (st3.trans st4)
    · cases h2
theorem zgd {v st : Expr} {l u : Option Expr} {p pos : Pos} {xv xl xu xs : X} (hv : Sound cx ε v xv) (hl : SoundO cx ε l xl) (hu : SoundO cx ε u xu) (hst : Sound cx ε st xs) :
    Sound cx ε (.Subscript v (.Slice l u (some st) p) pos) (.op .slice3 (.cons xv (.cons xl (.cons xu (.cons xs .nil))))) := by
  refine Sound.ofE ?_ fun _ => rfl
  intro n cf A env F s ρ ad m cm H res he Q E hQ
  obtain ⟨rs, h1, h2⟩ := ev_op he
  obtain ⟨ra, xs', ha, h3, rfl⟩ := zaR h1
  obtain ⟨rb, ys, hb, h4, rfl⟩ := zaR h3
  obtain ⟨rc, zs, hc, h5, rfl⟩ := zaR h4
  obtain ⟨rd, ws, hd, h6, rfl⟩ := zaR h5
  cases zcr h6
  refine Subscript_ ?_
  refine hv.ev n cf A env F s ρ ad m cm H ra ha _ _ fun a F' s' st qa => ?_
  refine wpAny_Slice ?_
  refine hl.run (H.step st) hb _ _ fun vl F1 s1 st1 ql => ?_
  refine hu.run ((H.step st).step st1) hc _ _ fun vu F2 s2 st2 qu => ?_
  have st3 := (st.trans st1).trans st2
  refine hst.ev n cf A env F2 s2 ρ ad m cm (H.step st3) rd hd _ _ fun vs F3 s3 st5 qs => ?_
  have st6 := st3.trans st5
  have st4 := Step.push H.ok st6.wd { cls := .type "slice", data := .fields #[vl, vu, vs] } s3.toks
  have qa' := st4.brep st6.wd (((st1.trans st2).trans st5).brep st.wd qa.brep)
  have ql' := st4.brep st6.wd ((st2.trans st5).brep st1.wd ql.brep)
  have qu' := st4.brep st6.wd (st5.brep st3.wd qu.brep)
  have qs' := st4.brep st6.wd qs.brep
  have hs := Heap.IsSliceOf.new s3.heap vl vu vs
  replace h2 : opSlice3 [ra.ds, rb.ds, rc.ds, rd.ds] = some res := h2
  cases hx : ra.ds <;> rw [hx] at h2 <;> try (cases h2; done)
  cases hy : rd.ds <;> rw [hy] at h2 <;> try (cases h2; done)
  · rename_i x k
    rw [hx] at qa'; rw [hy] at qs'
    replace h2 : (match partD rb.ds, partD rc.ds with | some lo, some hi => if k ≠ 0 ∧ small k then some (R.own (pick x lo hi (some k))) else none | _, _ => none) = some res := h2
    split at h2
    · rename_i lo hi hlo hhi
      split at h2 <;> cases h2
      rename_i hk
      obtain ⟨al, vs', k', rfl, nx, g, z, q⟩ := qa'.list_inv st4.wd
      refine zfp st4.wd qa' rfl ?_
      obtain ⟨t, rfl⟩ := qs'.int_inv
      exact ze4 H.ok st4.wd g z q hs (zeh ql' hlo).1 (zeh qu' hhi).1 (.int _ _) (by intro e; cases e; exact hk.1 rfl) (hQ.after (st6.trans st4))
    · cases h2
end
noncomputable def starred : Expr → Bool
  | .Starred _ _ => true
  | _ => false
theorem zar {e : Expr} {rest : List Expr} {env : Env} (h : starred e = false) : starEach (e :: rest) env = (false, eval e env) :: starEach rest env := by
  cases e <;> first | rfl | cases h
theorem zax {pos : Pos} {t : Sem Value} {r : List (Bool × Sem Value)} : backTo pos ((false, t) :: r) = (false, t) :: backTo pos r := by
  simp [backTo]
section
variable {cx : XCx} {ε : Sc}
inductive RepRL (cx : XCx) (F : Addr → Prop) (lo h : Heap) : List Value → List R → Prop
  | nil : RepRL cx F lo h [] []
  | cons {v : Value} {vs : List Value} {r : R} {rs : List R} : RepR cx F lo h v r → RepRL cx F lo h vs rs → RepRL cx F lo h (v :: vs) (r :: rs)
theorem RepRL.brep {F : Addr → Prop} {lo h : Heap} {vs : List Value} {rs : List R} (q : RepRL cx F lo h vs rs) : BRepL cx F h vs (rs.map R.ds) := by
  induction q with
  | nil => exact .nil
  | cons a _ ih => exact .cons a.brep ih
theorem RepRL.low {F F' F'' : Addr → Prop} {s s' : Shared} {h : Heap} {vs : List Value} {rs : List R} (x : Step cx F s F' s') (q : RepRL cx F'' s'.heap h vs rs) : RepRL cx F'' s.heap h vs rs := by
  induction q with
  | nil => exact .nil
  | cons a _ ih => exact .cons (a.low x) ih
theorem RepRL.vals {F : Addr → Prop} {lo h : Heap} {vs : List Value} {l : List D} (q : RepL cx.T F h vs l) : RepRL cx F lo h vs (l.map .val) := by
  induction vs generalizing l with
  | nil => cases q; exact .nil
  | cons v vs ih => cases q with | cons a b => exact .cons (.val a) (ih b)
theorem zhV (ok : CxOk cx) {F : Addr → Prop} {s : Shared} (w : Wd cx F s) : ∀ {vs : List Value} {rs : List R} {ds : List D} {F' : Addr → Prop} {s' : Shared} {F₁ : Addr → Prop}, Step cx F s F₁ s' → (∀ a, F' a → F₁ a) → RepRL cx F' s.heap s'.heap vs rs → fzAll rs = some ds →
    ∃ F'', Step cx F s F'' s' ∧ (∀ a, F₁ a → F'' a) ∧ RepL cx.T F'' s'.heap vs ds := by
  intro vs rs ds F' s' F₁ x hF q e
  induction q generalizing ds F₁ with
  | nil => cases e; exact ⟨F₁, x, fun _ h => h, .nil⟩
  | @cons v vs r rs a b ih =>
    unfold fzAll at e
    split at e
    · rename_i d ds' e1 e2
      cases e
      cases a with
      | val a =>
        cases e1
        obtain ⟨F'', y, hs, q⟩ := ih x hF e2
        exact ⟨F'', y, hs, .cons (a.mono (fun c h => hs c (hF c h)) fun _ _ _ e => e) q⟩
      | own l nf nx g z a =>
        cases e1
        obtain ⟨F'', y, hs, q⟩ := ih (x.freeze ok w l g) (fun c h => .inl (hF c h)) e2
        exact ⟨F'', y, fun c h => hs c (.inl h), .cons (.list (hs _ (.inr rfl)) g z (a.mono (fun c h => hs c (.inl (hF c h))) fun _ _ _ e => e)) q⟩
      | bor _ _ _ _ => cases e1
    · cases e
inductive SoundL (cx : XCx) (ε : Sc) : List Expr → X → Bool → Prop
  | nil : SoundL cx ε [] .nil false
  | cons {e : Expr} {x : X} {es : List Expr} {y : X} {st : Bool} : Sound cx ε e x → starred e = false → SoundL cx ε es y st → SoundL cx ε (e :: es) (.cons x y) st
  | star {e : Expr} {x : X} {p : Pos} : Sound cx ε e x → SoundL cx ε [.Starred e p] (.star x) true
theorem ziG {F : Addr → Prop} {s : Shared} {A : Around} {E : Value → Shared → Prop} {Q : List Value → Shared → Prop} (ok : CxOk cx) (w : Wd cx F s) {v : Value} {r : R} {d : D} {l : List D} {lo : Heap} (q : RepR cx F lo s.heap v r) (e : r.fz = some d)
    (hl : d = .list l ∨ d = .tup l)
    (h : ∀ vs s', RepL cx.T F s'.heap vs l → vs.length ≤ lim → Step cx F s F s' → Q vs s') : PySem.W.StarOf (model cx.prog cx.w) A E v Q s := by
  have key : ∃ (a : Addr) (o : Obj) (T : String) (vs : List Value) (n : Nat), v = .ref a ∧ s.heap.get? a = some o ∧ o.cls = .type T ∧ o.data = .seq vs.toArray n ∧ (T = "list" ∨ T = "tuple") ∧ vs.length ≤ lim ∧ RepL cx.T F s.heap vs l := by
    cases q with
    | val q =>
      cases e
      rcases hl with rfl | rfl
      · cases q with | list f g z q => exact ⟨_, _, "list", _, _, rfl, g, rfl, rfl, .inl rfl, z, q⟩
      · cases q with | tup f g z q => exact ⟨_, _, "tuple", _, _, rfl, g, rfl, rfl, .inr rfl, z, q⟩
    | own l nf nx g z q =>
      cases e
      rcases hl with h | h <;> cases h
      exact ⟨_, _, "list", _, _, rfl, g, rfl, rfl, .inl rfl, z, q⟩
    | bor _ _ _ _ => cases e
  obtain ⟨a, o, T, vs, n, rfl, g, hc, hd, hT, z, q⟩ := key
  have hT' : s.TypeIs (.ref a) T := ⟨o, g, hc⟩
  have c : wpAny (model cx.prog cx.w) A (collect (.ref a)) Q E s := by
    refine wpAny_collect_seq a hT g hc hd (fun h' hk => ?_) (by rw [List.size_toArray]; exact zaA z)
    exact h vs { s with heap := h' } (q.mono (fun _ h => h) fun a o _ e => hk a o e) z (Step.grown ok w s.toks hk)
  unfold PySem.W.StarOf notIterableAtAll
  rcases hT with rfl | rfl
  · exact wpAny_bind (wpAny_specialOf hT' PySem.F.slot_list_iter.lookup (wpAny_pure ⟨rfl, c⟩))
  · exact wpAny_bind (wpAny_specialOf hT' PySem.F.slot_tuple_iter.lookup (wpAny_pure ⟨rfl, c⟩))
theorem ev_star {cf : Nat → List D → Option D} {ρ : List Slot} {a : X} {rs : List R} (h : ev cf (.star a) ρ = some rs) : ∃ x d l, ev cf a ρ = some [x] ∧ x.fz = some d ∧ (d = .list l ∨ d = .tup l) ∧ rs = l.map .val := by
  replace h := (zbp _).symm.trans h
  split at h
  · rename_i x e
    split at h
    · rename_i l e'; cases h; exact ⟨x, _, l, e, e', .inl rfl, rfl⟩
    · rename_i l e'; cases h; exact ⟨x, _, l, e, e', .inr rfl, rfl⟩
    · cases h
  · cases h
theorem zhx {n cf A env F s ρ ad m cm} (H : Here cx ε n cf A env F s ρ ad m cm) {e : Expr} {x : X} (h : Sound cx ε e x) {rs : List R} (hr : ev cf (.star x) ρ = some rs) {Q : List Value → Shared → Prop} {E : Value → Shared → Prop}
    (hQ : ∀ vs F' s', Step cx F s F' s' → RepRL cx F' s.heap s'.heap vs rs → vs.length ≤ lim → Q vs s') : wpAny (model cx.prog cx.w) A (eval e env) (fun v s₁ => PySem.W.StarOf (model cx.prog cx.w) A E v Q s₁) E s := by
  obtain ⟨r, d, l, e1, e2, e3, rfl⟩ := ev_star hr
  refine h.ev n cf A env F s ρ ad m cm H r e1 _ _ fun v F' s' st q => ?_
  obtain ⟨F'', st', hs, rd⟩ := st.fz H.ok H.wd q e2
  have q' : RepR cx F'' s.heap s'.heap v (.val d) := .val rd
  exact ziG H.ok st'.wd q' rfl e3 fun vs s'' ql z st'' => hQ vs F'' s'' (st'.trans st'') (RepRL.vals ql) z
theorem SoundL.run {es : List Expr} {x : X} {b : Bool} (h : SoundL cx ε es x b) {n cf A env} {pos : Pos} :
    ∀ F s ρ ad m cm, Here cx ε n cf A env F s ρ ad m cm → ∀ rs, ev cf x ρ = some rs → ∀ (Q : List Value → Shared → Prop) (E : Value → Shared → Prop),
      (∀ vs F' s', Step cx F s F' s' → RepRL cx F' s.heap s'.heap vs rs → Q vs s') → wpAny (model cx.prog cx.w) A (spliced (backTo pos (starEach es env))) Q E s := by
  induction h with
  | nil =>
    intro F s ρ ad m cm H rs hr Q E hQ
    cases zcr hr
    exact Calls.spliced_nil (hQ [] F s (Step.refl H.wd) .nil)
  | @cons e x es y st h1 hs h2 ih =>
    intro F s ρ ad m cm H rs hr Q E hQ
    obtain ⟨r, rs', e1, e2, rfl⟩ := zaR hr
    rw [zar hs, zax]
    refine Calls.spliced_cons ?_
    refine h1.ev n cf A env F s ρ ad m cm H r e1 _ _ fun v F' s' st q => ?_
    refine ih F' s' ρ ad m cm (H.step st) rs' e2 _ _ fun vs F'' s'' st' qs => ?_
    exact hQ _ F'' s'' (st.trans st') (.cons (q.step st' st.wd) (qs.low st))
  | @star e x p h1 =>
    intro F s ρ ad m cm H rs hr Q E hQ
    refine PySem.W.ks_spliced (rest := []) (zhx H h1 hr fun vs F' s' st q z => ?_)
    exact Calls.spliced_nil (by rw [List.append_nil]; exact hQ vs F' s' st q)
theorem zav {es : List Expr} {x : X} {b : Bool} {pos : Pos} (h : SoundL cx ε es x b) : Sound cx ε (.List es pos) (.list x) := by
  refine Sound.ofE ?_ fun _ => rfl
  intro n cf A env F s ρ ad m cm H res he Q E hQ
  replace he := (za4 _).symm.trans he
  split at he
  · rename_i rs e1
    split at he
    · rename_i ds e2
      split at he <;> cases he
      rename_i hz
      show wpAny _ _ (do standAt pos; newList (← spliced (backTo pos (starEach es env)))) Q E s
      refine wpAny_bind (wpAny_standAt (wpAny_bind ?_))
      refine h.run F s ρ ad m cm H rs e1 _ _ fun vs F' s' st q => ?_
      obtain ⟨F'', st', _, q'⟩ := zhV H.ok H.wd st (fun _ h => h) q e2
      have z : vs.length ≤ lim := by rw [q'.length]; exact hz
      refine wpAny_newList ?_ (zaA z)
      exact hQ _ F'' _ (st'.trans (Step.push H.ok st'.wd _ _)) ((RepR.pushOwn st'.wd z q').low st')
    · cases he
  · cases he
theorem zfA {F : Addr → Prop} {s : Shared} (ok : CxOk cx) (w : Wd cx F s) {vs : List Value} {l : List D} (k : Nat) (z : vs.length ≤ lim) (q : RepL cx.T F s.heap vs l) :
    ∃ F', Step cx F s F' { s with heap := s.heap.push (tobj vs.toArray 0), toks := k } ∧ Rep cx.T F' (s.heap.push (tobj vs.toArray 0)) (.ref s.heap.objs.size) (.tup l) := by
  have st := Step.push ok w (tobj vs.toArray 0) k
  have g : (s.heap.push (tobj vs.toArray 0)).get? s.heap.objs.size = some (tobj vs.toArray 0) := Heap.get?_push_size _ rfl
  exact ⟨_, st.freeze ok w (zaz _) g, .tup (.inr rfl) g z ((st.repL w q).mono (fun _ h => .inl h) fun _ _ _ e => e)⟩
theorem zba {es : List Expr} {x : X} {b : Bool} {k : Nat} {pos : Pos} (h : SoundL cx ε es x b) : Sound cx ε (.Tuple es k pos) (.tup x) := by
  refine Sound.ofE ?_ fun _ => rfl
  intro n cf A env F s ρ ad m cm H res he Q E hQ
  replace he := (zbs _).symm.trans he
  split at he
  · rename_i rs e1
    split at he
    · rename_i ds e2
      split at he <;> cases he
      rename_i hz
      show wpAny _ _ (do standAt pos; newTuple (← spliced (backTo pos (starEach es env)))) Q E s
      refine wpAny_bind (wpAny_standAt (wpAny_bind ?_))
      refine h.run F s ρ ad m cm H rs e1 _ _ fun vs F' s' st q => ?_
      obtain ⟨F'', st', _, q'⟩ := zhV H.ok H.wd st (fun _ h => h) q e2
      have z : vs.length ≤ lim := by rw [q'.length]; exact hz
      refine wpAny_newTuple ?_ (zaA z)
      obtain ⟨F3, st3, r⟩ := zfA H.ok st'.wd s'.toks z q'
      exact hQ _ F3 _ (st'.trans st3) (.val r)
    · cases he
  · cases he
theorem zaL {es : List Expr} {x : X} {b : Bool} {pos : Pos} {env : Env} (h : SoundL cx ε es x b) : (backTo pos (starEach es env)).any (·.1) = b := by
  induction h with
  | nil => rfl
  | cons h1 hs h2 ih => rw [zar hs, zax, List.any_cons]; simpa using ih
  | star h => rfl
theorem za0 {es : List Expr} {x : X} {b : Bool} {pos : Pos} (h : SoundL cx ε es x b) {n cf A env F s ρ ad m cm} (H : Here cx ε n cf A env F s ρ ad m cm) {rs : List R} (hr : ev cf x ρ = some rs) {f : Value} {Q : Args → Shared → Prop} {E : Value → Shared → Prop}
    (hQ : ∀ vs F' s', Step cx F s F' s' → RepRL cx F' s.heap s'.heap vs rs → Q ⟨vs, []⟩ s') : wpAny (model cx.prog cx.w) A (evalArgs f true (backTo pos (starEach es env)) []) Q E s := by
  cases h with
  | nil =>
    cases zcr hr
    exact PySem.evalArgs_none (hQ [] F s (Step.refl H.wd) .nil)
  | @cons e x es y b h1 hs h2 =>
    have := (SoundL.cons h1 hs h2).run (pos := pos) F s ρ ad m cm H rs hr
    rw [zar hs, zax] at this ⊢
    exact Calls.evalArgs_plain (this _ _ hQ)
  | star h1 =>
    exact PySem.W.ks_lone (zhx H h1 hr fun vs F' s' st q _ => hQ vs F' s' st q)
theorem zcc {n cf A env F s ρ ad m cm} (H : Here cx ε n cf A env F s ρ ad m cm) {x : Str} {pos : Pos} {v : Value} (hk : ε.kinds.lookup x = some .globalImplicit) (hv : cx.mg x = some v) (hd : (x == ("__debug__" : Str)) = false)
    {Q : Value → Shared → Prop} {E : Value → Shared → Prop} (h : Q v s) : wpAny (model cx.prog cx.w) A (eval (.Name x pos) env) Q E s :=
  Calls.Name_function_global H.env.kind (by unfold Env.kindOf; rw [H.env.names]; exact hk) (Calls.loadGlobal_global (H.env.glob ▸ H.wd.glob H.ok) hv h) hd
theorem zaS {n cf A env F s ρ ad m cm} (H : Here cx ε n cf A env F s ρ ad m cm) {x : Str} {pos : Pos} {v : Value} (hk : ε.kinds.lookup x = some .globalImplicit) (hg : cx.mg x = none) (hn : x ≠ "__name__") (hv : bootBuiltins x = some v) (hd : (x == ("__debug__" : Str)) = false)
    {Q : Value → Shared → Prop} {E : Value → Shared → Prop} (h : Q v s) : wpAny (model cx.prog cx.w) A (eval (.Name x pos) env) Q E s :=
  Calls.Name_function_global H.env.kind (by unfold Env.kindOf; rw [H.env.names]; exact hk) (Calls.loadGlobal_builtin (H.env.glob ▸ H.wd.glob H.ok) hg (H.env.blt ▸ H.wd.blt H.ok) ((H.ok.bmb x hn).trans hv) h) hd
theorem zay {f : Expr} {args : List Expr} {pos : Pos} {env : Env} (hf : ∀ o n p, f ≠ .Attribute o n p) : eval (.Call f args [] pos) env = (do callWith pos (← eval f env) [] (backTo pos (starEach args env)) []) := by
  cases f <;> first | rfl | exact absurd rfl (hf _ _ _)
theorem zak {f : Str} {i : Nat} {p pos : Pos} {es : List Expr} {x : X} {b : Bool} (hk : ε.kinds.lookup f = some .globalImplicit) (hv : cx.mg f = some (.ref (cx.fa i))) (hd : (f == ("__debug__" : Str)) = false) (h : SoundL cx ε es x b) :
    Sound cx ε (.Call (.Name f p) es [] pos) (.call i x) := by
  refine Sound.ofE ?_ fun _ => rfl
  intro n cf A env F s ρ ad m cm H res he Q E hQ
  replace he := (zbk _).symm.trans he
  split at he
  · rename_i rs e1
    split at he
    · rename_i ds e2
      obtain ⟨d, e3, e4⟩ := Option.map_eq_some_iff.mp he
      cases e4
      rw [zay (by intro _ _ _ e; cases e)]
      obtain ⟨⟨o, fd, g, hfd, nx⟩, hcall⟩ := H.calls i ds d e3
      refine wpAny_bind (zcc H hk hv hd ?_)
      refine Calls.callWith_function (o := o) (fd := fd) (za0 h H e1 fun vs F' s' st q => ?_)
      obtain ⟨F'', st', _, q'⟩ := zhV H.ok H.wd st (fun _ h => h) q e2
      refine ⟨⟨st'.wd.base _ _ g nx, hfd⟩, ?_⟩
      show wpAny _ _ (call (.ref (cx.fa i)) vs) Q E s'
      refine wpAny_call (hcall A F'' s' vs H.bud.toBud st'.wd q' _ fun v F3 s3 st3 r => ?_)
      exact hQ v F3 s3 (st'.trans st3) (.val r)
    · cases he
  · cases he
inductive Callee : Value → Prop
  | builtin (id : String) : Callee (.builtin id)
  | type (T : String) : Callee (.type T)
theorem zaj {f : Str} {c : Value} {o : Op} {p pos : Pos} {es : List Expr} {x : X} (hk : ε.kinds.lookup f = some .globalImplicit) (hg : cx.mg f = none) (hn : f ≠ "__name__") (hv : bootBuiltins f = some c) (hc : Callee c)
    (hd : (f == ("__debug__" : Str)) = false) (h : SoundL cx ε es x false) (ho : OpOK cx o (fun vs => call c vs)) : Sound cx ε (.Call (.Name f p) es [] pos) (.op o x) := by
  refine Sound.ofE ?_ fun _ => rfl
  intro n cf A env F s ρ ad m cm H res he Q E hQ
  obtain ⟨rs, e1, e2⟩ := ev_op he
  rw [zay (by intro _ _ _ e; cases e)]
  refine wpAny_bind (zaS H hk hg hn hv hd ?_)
  cases hc with
  | builtin id =>
    refine Calls.callWith_builtin (zaL h) (za0 h H e1 fun vs F' s' st q => ?_)
    exact ho n A F' s' vs _ res H.ok H.bud st.wd q.brep e2 _ _ (hQ.after st)
  | type T =>
    refine PyProof.Rows.callWith_type (zaL h) (za0 h H e1 fun vs F' s' st q => ?_)
    exact ho n A F' s' vs _ res H.ok H.bud st.wd q.brep e2 _ _ (hQ.after st)
noncomputable def plainBase : Expr → Bool
  | .Call (.Name _ _) [] [] _ => false
  | _ => true
theorem zdE {o : Expr} {a : Str} {env : Env} {t : Sem Value} (h : plainBase o = true) : attributeBase o a env t = t := by
  cases o with
  | Call f as ks pos => cases f with
    | Name x p => cases as with
      | nil => cases ks with
        | nil => cases h
        | cons _ _ => rfl
      | cons _ _ => rfl
    | _ => rfl
  | _ => rfl
theorem zc8 {o : Expr} {name : Str} {apos pos : Pos} {es : List Expr} {env : Env} {A : Around} {s : Shared} {Q : Value → Shared → Prop} {E : Value → Shared → Prop} (hb : plainBase o = true) (hl : (apos.endLine == pos.line) = true) (hn : es.length < 30)
    (hst : (backTo pos (starEach es env)).any (·.1) = false)
    (h : wpAny (model cx.prog cx.w) A (eval o env) (fun ov s₁ => wpAny (model cx.prog cx.w) A (getMethod ov name (do return (← importBound o env).getD true)) (fun fx s₂ => wpAny (model cx.prog cx.w) A (callWith pos fx.1 fx.2 (backTo pos (starEach es env)) []) Q E s₂) E s₁) E s) :
    wpAny (model cx.prog cx.w) A (eval (.Call (.Attribute o name apos) es [] pos) env) Q E s := by
  have hform : methodCallForm (es.length + ([] : List Keyword).length) (backTo pos (starEach es env)) [] = true := by
    unfold methodCallForm
    simp only [List.length_nil, Nat.add_zero, List.all_nil, Bool.and_true, List.isEmpty_nil, if_true, Bool.and_eq_true, decide_eq_true_eq]
    refine ⟨?_, hn⟩
    rw [List.all_eq_true]
    intro y hy
    have := List.any_eq_false.mp hst y hy
    simpa using this
  have hpos : methodCallPos true o env apos pos = pure pos := by unfold methodCallPos; simp [hl]
  show wpAny _ _ (do
    let ov ← attributeBase o name env (eval o env)
    standAt apos.atName
    methodCall o name apos pos env ov (es.length + ([] : List Keyword).length) (backTo pos (starEach es env)) (backToKw pos (keywordEach [] env))) Q E s
  rw [zdE hb]
  refine wpAny_bind (wpAny_mono h (fun ov s₁ h₁ => wpAny_bind (wpAny_standAt ?_)) fun _ _ e => e)
  show wpAny _ _ (methodCall o name apos pos env ov (es.length + ([] : List Keyword).length) (backTo pos (starEach es env)) []) Q E s₁
  unfold methodCall calleeOf
  rw [hform]
  refine wpAny_bind (wpAny_holding (wpAny_mono h₁ (fun fx s₂ h₂ => ?_) fun _ _ e => e))
  rw [hpos]
  exact wpAny_bind (wpAny_pure h₂)
theorem zaN {o : Expr} {name : Str} {id : String} {apos pos : Pos} {es : List Expr} {xo x : X} {op : Op} (hb : plainBase o = true) (hl : (apos.endLine == pos.line) = true) (hn : es.length < 30)
    (slot : PySem.Slot "str" name id) (ty : typeOf (.builtin id) = pure (.type "method_descriptor"))
    (h0 : Sound cx ε o xo) (h : SoundL cx ε es x false) (hs : ∀ d ds r, opF op (d :: ds) = some r → ∃ l, d = .str l) (ho : OpOK cx op (fun vs => call (.builtin id) vs)) : Sound cx ε (.Call (.Attribute o name apos) es [] pos) (.op op (.cons xo x)) := by
  refine Sound.ofE ?_ fun _ => rfl
  intro n cf A env F s ρ ad m cm H res he Q E hQ
  obtain ⟨rs, e1, e2⟩ := ev_op he
  obtain ⟨r0, rs', e3, e4, rfl⟩ := zaR e1
  refine zc8 hb hl hn (zaL h) ?_
  refine h0.ev n cf A env F s ρ ad m cm H r0 e3 _ _ fun v F' s' st q => ?_
  obtain ⟨l, hl'⟩ := hs _ _ _ e2
  have qb := q.brep
  rw [hl'] at qb
  obtain ⟨t, rfl, p, z⟩ := qb.str_inv
  refine GM.of _ (typeIs_str _ _ _) slot ty (fun _ e => nomatch e) ?_
  refine Calls.callWith_builtin (zaL h) (za0 h (H.step st) e4 fun vs F'' s'' st' qs => ?_)
  exact ho n A F'' s'' (_ :: vs) _ res H.ok H.bud st'.wd (.cons (st'.brep st.wd q.brep) qs.brep) e2 _ _ (hQ.after (st.trans st'))
end
theorem zdM {α : Type} (n : Nat) (l : List α) : ((List.replicate n l.toArray).foldl (· ++ ·) #[]) = ((List.replicate n l).flatten).toArray := by
  have : ∀ (m : Nat) (acc : List α), ((List.replicate m l.toArray).foldl (· ++ ·) acc.toArray) = (acc ++ (List.replicate m l).flatten).toArray := by
    intro m
    induction m with
    | zero => intro acc; simp
    | succ m ih =>
      intro acc
      simp only [List.replicate_succ, List.foldl_cons, List.flatten_cons]
      rw [show acc.toArray ++ l.toArray = (acc ++ l).toArray by simp, ih]
      simp
  have := this n []
  simpa using this
section
variable {cx : XCx}
theorem zjh : OpOK cx .mul (op2 (binaryOp .Mult)) := by
  intro n A F s vs ds r ok bud w q he Q E hQ
  replace he : opMul ds = some r := he
  rcases ds with _ | ⟨a0, t0⟩
  · cases he
  cases a0 <;> try (cases he; done)
  all_goals
    rcases t0 with _ | ⟨a1, t1⟩
    · cases he
    cases a1 <;> try (cases he; done)
    rcases t1 with _ | ⟨a2, t2⟩ <;> try (cases he; done)
  · rename_i a b
    replace he : (if (small a || small b) = true then some (R.val (.int (a * b))) else none) = some r := he
    split at he <;> cases he
    rename_i hs
    obtain ⟨x, y, rfl, qa, qb⟩ := q.two
    obtain ⟨t, rfl⟩ := qa.int_inv
    obtain ⟨u, rfl⟩ := qb.int_inv
    refine P.mul_int (hQ _ F _ ((Step.refl w).toks _) (.val (.int _ _))) ?_
    simp only [Bool.or_eq_true] at hs
    rcases hs with hs | hs
    · have := zb8 hs
      exact PySem.IntMulOk.of_left (PySem.intBits_le_64 (by omega) (by omega))
    · have := zb8 hs
      exact PySem.IntMulOk.of_right (PySem.intBits_le_64 (by omega) (by omega))
  · rename_i a b
    replace he : (if (small b && decide (a.length * b.toNat ≤ lim)) = true then some (R.val (.str (rep a b))) else none) = some r := he
    split at he <;> cases he
    rename_i hs
    simp only [Bool.and_eq_true, decide_eq_true_eq] at hs
    have hb := zb8 hs.1
    have hz := hs.2
    obtain ⟨x, y, rfl, qa, qb⟩ := q.two
    obtain ⟨t, rfl, p, z⟩ := qa.str_inv
    obtain ⟨u, rfl⟩ := qb.int_inv
    have hlen : (PySem.Str.mk a.toArray).length = a.length := by show a.toArray.size = _; rw [List.size_toArray]
    refine SB.mul ⟨by simp; omega, ?_, ?_⟩ ?_
    · intro h1 _ h2
      rw [hlen] at h2
      have : (a.length : Int) ≤ 1000000 := by unfold lim at z; omega
      have h3 : (2 ^ 63 - 1) / b ≥ 1000000 := by
        apply Int.le_ediv_of_mul_le (by omega)
        omega
      omega
    · intro h1 _
      rw [hlen]
      unfold tooLong
      simp only [decide_eq_false_iff_not]
      have := zaA hz
      omega
    · intro t' k
      have hlen2 : (rep a b).length = a.length * b.toNat := by
        unfold rep
        simp [Nat.mul_comm]
      have e : Txt.mul ⟨a.toArray⟩ b = ⟨(rep a b).toArray⟩ := by
        unfold Txt.mul rep
        split
        · rename_i h1
          have : b.toNat = 0 := by omega
          rw [this]; rfl
        · split
          · rename_i h1 h2
            simp only [Bool.or_eq_true, beq_iff_eq] at h2
            rcases h2 with h2 | h2
            · subst h2; simp
            · rw [hlen, List.length_eq_zero_iff] at h2; subst h2
              simp
          · show PySem.Str.mk _ = _
            rw [zdM]
      rw [e]
      refine hQ _ F _ ((Step.refl w).toks k) (.val (.str _ (fun c hc => ?_) (by rw [hlen2]; exact hz)))
      unfold rep at hc
      obtain ⟨l, hl, hc⟩ := List.mem_flatten.mp hc
      rw [(List.mem_replicate.mp hl).2] at hc
      exact p c hc
  · rename_i a b
    replace he : (if (small b && decide (a.length * b.toNat ≤ lim)) = true then some (R.own (rep a b)) else none) = some r := he
    split at he <;> cases he
    rename_i hs
    simp only [Bool.and_eq_true, decide_eq_true_eq] at hs
    have hb := zb8 hs.1
    have hz := hs.2
    obtain ⟨x, y, rfl, qa, qb⟩ := q.two
    obtain ⟨l, vs, k, rfl, nx, g, z, ql⟩ := qa.list_inv w
    obtain ⟨u, rfl⟩ := qb.int_inv
    have hsz : vs.toArray.size * b.toNat ≤ 2 ^ 24 := by
      rw [List.size_toArray, ql.length]; unfold lim at hz; omega
    have hlen2 : (rep vs b).length ≤ lim := by
      unfold rep
      simp only [List.length_flatten, List.map_replicate, List.sum_replicate_nat]
      rw [ql.length, Nat.mul_comm]; exact hz
    have e : (List.foldl (fun x1 x2 => x1 ++ x2) #[] (List.replicate (if vs.toArray.isEmpty = true then 0 else b.toNat) vs.toArray)) = (rep vs b).toArray := by
      unfold rep
      split
      · rename_i h1
        have : vs = [] := by simpa using h1
        subst this
        simp
      · rw [zdM]
    refine wpAny_binaryOp_repeat_ref (T := "list") (U := "int") (by decide) ⟨_, g, rfl⟩ (fun s' => typeIs_int s' b u) noFill_list_mul PySem.F.fills_int_mul PySem.F.slot_int_rmul repeat_list PySem.F.slot_int_index.lookup
      (call_meets PySem.F.slot_int_rmul (typeIs_int s b u) PySem.F.entry_int_rmul (PySem.F.args_int_rmul_2 _ _) (int___rmul___int_list b u l vs.toArray k)
        ⟨g, rfl, ⟨_, g, rfl⟩, call_meets PySem.F.slot_list_mul ⟨_, g, rfl⟩ PySem.F.entry_list_mul (PySem.F.args_list_mul_2 _ _)
          (AutoListH.list___mul___list_int_3 l vs.toArray k b u (by simp [Builtin.List.listFitsIndex]; omega) (by omega) (by simp [Builtin.List.listTooLong, sizeLine]; omega))
          ⟨g, ?_⟩⟩)
    rw [e]
    exact hQ _ F _ (Step.push ok w _ _) (.pushOwn w hlen2 (ql.rep _))
inductive IsInv : D → D → Bool → Prop
  | toks (i j : Nat) : IsInv (.tok i) (.tok j) (decide (i = j))
  | tys (m n : String) : IsInv (.ty m) (.ty n) (decide (m = n))
  | none : IsInv .none .none true
  | strTok (l : List Nat) (k : Nat) : IsInv (.str l) (.tok k) false
  | tokStr (l : List Nat) (k : Nat) : IsInv (.tok k) (.str l) false
  | noneTok (k : Nat) : IsInv .none (.tok k) false
  | some {d : D} : d ≠ .none → (∀ n, d ≠ .ty n) → IsInv d .none false
theorem isD_inv {a b : D} {c : Bool} (h : isD a b = some c) : IsInv a b c := by
  cases b <;> try (cases a <;> cases h; done)
  · cases a <;> cases h
    · exact .none
    all_goals exact .some (fun e => nomatch e) fun _ e => nomatch e
  · cases a <;> cases h
    exact .tokStr _ _
  · cases a <;> cases h
    · exact .noneTok _
    · exact .strTok _ _
    · exact .toks _ _
  · cases a <;> cases h
    exact .tys _ _
theorem zkh {F : Addr → Prop} {h : Heap} {v : Value} {d : D} (q : BRep cx F h v d) (h1 : d ≠ .none) (h2 : ∀ n, d ≠ .ty n) : plainIs v .none = true ∧ (v == .none) = false := by
  cases q with
  | rep q => cases q <;> first | exact absurd rfl h1 | exact absurd rfl (h2 _) | exact ⟨rfl, rfl⟩
  | own => exact ⟨rfl, rfl⟩
theorem zd4 {F : Addr → Prop} {h : Heap} {v : Value} {k : Nat} (q : BRep cx F h v (.tok k)) : v = .ref (cx.T k) ∧ ∃ n t, h.get? (cx.T k) = some (lobj #[.str ⟨(tokC k).toArray⟩ t] n) := by
  cases q with | rep q => cases q with | tok f g => exact ⟨rfl, _, _, g⟩
theorem zjO (ok : CxOk cx) {F : Addr → Prop} {s : Shared} {A : Around} {x y : Value} {a b : D} {c : Bool} (w : Wd cx F s) (qa : BRep cx F s.heap x a) (qb : BRep cx F s.heap y b) (hc : isD a b = some c) {Q : Bool → Shared → Prop} {E : Value → Shared → Prop} (h : Q c s) :
    wpAny (model cx.prog cx.w) A (isSame x y) Q E s := by
  cases isD_inv hc with
  | none => rw [qa.none_inv, qb.none_inv]; exact wpAny_isSame_plain rfl h
  | noneTok k => rw [qa.none_inv, (zd4 qb).1]; exact wpAny_isSame_plain rfl h
  | strTok l k => obtain ⟨t, rfl, _, _⟩ := qa.str_inv; rw [(zd4 qb).1]; exact wpAny_isSame_plain rfl h
  | tokStr l k => obtain ⟨t, rfl, _, _⟩ := qb.str_inv; rw [(zd4 qa).1]; exact wpAny_isSame_plain rfl h
  | some h1 h2 =>
    obtain ⟨e1, e2⟩ := zkh qa h1 h2
    rw [qb.none_inv]
    exact wpAny_isSame_plain e1 (by rw [e2]; exact h)
  | toks i j =>
    obtain ⟨rfl, _, _, g⟩ := zd4 qa
    obtain ⟨rfl, _, _, g'⟩ := zd4 qb
    by_cases e : i = j
    · subst e
      rw [decide_eq_true rfl] at h
      exact wpAny_isSame_ref_self h
    · rw [decide_eq_false e] at h
      exact wpAny_isSame_ref_other (fun e' => e (ok.tinj _ _ e')) g g' (by show Value.type "list" ≠ Value.type "tuple"; decide) h
  | tys m n =>
    rw [qa.ty_inv, qb.ty_inv]
    refine wpAny_isSame_plain rfl ?_
    have e : (Value.type m == Value.type n) = decide (m = n) := by
      by_cases e : m = n
      · subst e; simp
      · simp [e]
    rw [e]; exact h
theorem op_is : OpOK cx .is_ (op2 (compareOp .Is)) := by
  intro n A F s vs ds r ok bud w q he
  refine zfh w q he fun x y a b c qa qb hc Q E h => ?_
  show wpAny _ A (do return .bool (← isSame x y)) Q E s
  exact wpAny_bind (zjO ok w qa qb hc (wpAny_pure (h s.toks)))
theorem zkK : OpOK cx .isnot (op2 (compareOp .IsNot)) := by
  intro n A F s vs ds r ok bud w q he
  refine zfh w q he fun x y a b c qa qb hc Q E h => ?_
  obtain ⟨c', hc', rfl⟩ := Option.map_eq_some_iff.mp hc
  show wpAny _ A (do return .bool (!(← isSame x y))) Q E s
  exact wpAny_bind (zjO ok w qa qb hc' (wpAny_pure (h s.toks)))
theorem zby : OpOK cx .len (fun vs => call (.builtin "len") vs) := by
  intro n A F s vs ds r ok bud w q he Q E hQ
  replace he : opLen ds = some r := he
  rcases ds with _ | ⟨a0, t0⟩
  · cases he
  cases a0 <;> try (cases he; done)
  all_goals
    rcases t0 with _ | ⟨a1, t1⟩ <;> cases he
  · obtain ⟨x, rfl, qa⟩ := q.one
    obtain ⟨t, rfl, p, z⟩ := qa.str_inv
    rename_i l
    have e : (PySem.Str.mk l.toArray).length = l.length := by show l.toArray.size = _; rw [List.size_toArray]
    refine P.len_str (by rw [e]; have := sz_lt z; omega) ?_
    rw [e]
    exact hQ _ F _ ((Step.refl w).toks _) (.val (.int _ _))
  · obtain ⟨x, rfl, qa⟩ := q.one
    obtain ⟨a, vs, k, rfl, nx, g, z, ql⟩ := qa.list_inv w
    refine PyProof.Rows.len_list (zaI g) (by rw [List.size_toArray]; exact sz_lt z) ?_
    rw [List.size_toArray, ql.length]
    exact hQ _ F _ ((Step.refl w).toks _) (.val (.int _ _))
  · obtain ⟨x, rfl, qa⟩ := q.one
    obtain ⟨a, vs, k, rfl, f, g, z, ql⟩ := qa.tup_inv
    refine PyProof.Rows.len_tuple (zfP g) (by rw [List.size_toArray]; exact sz_lt z) ?_
    rw [List.size_toArray, ql.length]
    exact hQ _ F _ ((Step.refl w).toks _) (.val (.int _ _))
theorem abs_ite {i : Int} : (if i < 0 then -i else i) = (i.natAbs : Int) := by
  split
  · rename_i h; exact (Int.ofNat_natAbs_of_nonpos (Int.le_of_lt h)).symm
  · rename_i h; exact (Int.natAbs_of_nonneg (Int.not_lt.mp h)).symm
theorem zlq : OpOK cx .abs (fun vs => call (.builtin "abs") vs) := by
  intro n A F s vs ds r ok bud w q he Q E hQ
  delta opF at he; dsimp only at he
  unfold opAbs at he
  split at he <;> cases he
  rename_i i
  obtain ⟨x, rfl, qa⟩ := q.one
  obtain ⟨t, rfl⟩ := qa.int_inv
  refine PyProof.Rows.call_abs_int fun u tk => ?_
  have e : (if i < 0 then -i else i) = (i.natAbs : Int) := abs_ite
  rw [e]
  exact hQ _ F _ ((Step.refl w).toks _) (.val (.int _ _))
theorem zia {F : Addr → Prop} {h : Heap} : ∀ {l : List D} {is : List Int} {vs : List Value}, toInts l = some is → RepL cx.T F h vs l → ∀ (i : Nat) v, vs[i]? = some v → ∃ t, v = .int (is.getD i 0) t := by
  intro l
  induction l with
  | nil => intro is vs e q i v hv; cases q; cases hv
  | cons d r ih =>
    intro is vs e q
    cases d <;> try (cases e; done)
    obtain ⟨is', e', rfl⟩ := Option.map_eq_some_iff.mp (show (toInts r).map _ = some is from e)
    cases q with
    | cons a b =>
      obtain ⟨t, e2⟩ := (BRep.rep (cx := cx) a).int_inv
      intro i v hv
      cases i with
      | zero => exact ⟨t, (Option.some.inj hv).symm.trans e2⟩
      | succ i => exact ih e' b i v hv
theorem zcY : ∀ {l : List D} {is : List Int}, toInts l = some is → is.length = l.length
  | [], is, e => by cases e; rfl
  | d :: r, is, e => by
    cases d <;> try (cases e; done)
    obtain ⟨is', e', rfl⟩ := Option.map_eq_some_iff.mp (show (toInts r).map _ = some is from e)
    simp [zcY e']
theorem op_sum : OpOK cx .sum (fun vs => call (.builtin "sum") vs) := by
  intro n A F s vs ds r ok bud w q he Q E hQ
  delta opF at he; dsimp only at he
  unfold opSum at he
  split at he
  · rename_i l
    obtain ⟨is, e1, e2⟩ := Option.map_eq_some_iff.mp he
    cases e2
    obtain ⟨x, rfl, qa⟩ := q.one
    obtain ⟨a, vs, k, rfl, nx, g, z, ql⟩ := qa.list_inv w
    refine call_sum_walkG (wpAny_pyIter_list (zaI g) ?_)
    have hne : a ≠ s.heap.objs.size := Nat.ne_of_lt (Heap.lt_size g)
    refine ⟨s.heap.objs.size, _, _, _, _, _, fun i => is.getD i 0, rfl, Walks.list (A := A.in1) bud.hd _ a hne vs.toArray, ⟨⟨_, Heap.get?_push_size _ rfl, rfl, rfl⟩, zaI (Heap.get?_push_of_some _ g)⟩, ?_, ?_, ?_⟩
    · intro b hb
      simp only [List.mem_cons, List.not_mem_nil, or_false] at hb
      rw [Heap.size_push]
      rcases hb with rfl | rfl
      · exact Nat.lt_succ_self _
      · exact Nat.lt_succ_of_lt (Heap.lt_size g)
    · intro i v hv
      exact zia e1 ql i v (by simpa using hv)
    · intro h' tk t' hk
      have e : preSum (fun i => is.getD i 0) vs.toArray.size = is.sum := by
        rw [preSum_getD, List.size_toArray, ql.length, ← zcY e1, List.take_length]
      rw [e]
      refine hQ _ F _ (Step.grown ok w _ fun b o hb => ?_) (.val (.int _ _))
      refine hk b o ?_ (Heap.get?_push_of_some _ hb)
      simp only [List.mem_cons, List.not_mem_nil, or_false]
      rintro rfl
      rw [zaz] at hb; cases hb
  · cases he
end
theorem zbn (l : List Nat) : (PySem.Str.mk l.toArray).length = l.length := by show l.toArray.size = _; rw [List.size_toArray]
theorem ze2 (x : PySem.Str) (lo hi : Nat) : (∀ c ∈ (strSub x lo hi).cps.toList, c ∈ x.cps.toList) ∧ (strSub x lo hi).cps.size ≤ x.cps.size := by
  unfold strSub
  constructor
  · intro c hc
    simp only [Array.mem_toList_iff] at hc ⊢
    obtain ⟨i, hi, e⟩ := Array.mem_iff_getElem.mp hc
    rw [Array.getElem_extract] at e
    exact Array.mem_iff_getElem.mpr ⟨_, _, e⟩
  · simp only [Array.size_extract]; exact Nat.le_trans (Nat.sub_le _ _) (Nat.min_le_right _ _)
section
variable {cx : XCx}
theorem zgS {F : Addr → Prop} {h : Heap} {l : List Nat} (p : ∀ c ∈ l, c < 0x110000) (z : l.length ≤ lim) {y : PySem.Str} (t : Tok) (h1 : ∀ c ∈ y.cps.toList, c ∈ l) (h2 : y.cps.size ≤ l.length) : Rep cx.T F h (.str y t) (.str y.cps.toList) :=
  Rep.str (l := y.cps.toList) t (fun c hc => p c (h1 c hc)) (by rw [Array.length_toList]; exact Nat.le_trans h2 z)
theorem zd9 {f : PySem.Str → PySem.Str → R} {vs : List Value} {ds : List D} {F : Addr → Prop} {s : Shared} {A : Around} {r : R} {id : String} (w : Wd cx F s) (q : BRepL cx F s.heap vs ds) (he : opStr2 f ds = some r)
    (h : ∀ (a b : List Nat) (t u : Tok), (∀ c ∈ a, c < 0x110000) → a.length ≤ lim → ∀ (Q : Value → Shared → Prop) (E : Value → Shared → Prop), (∀ v k, RepR cx F s.heap s.heap v (f ⟨a.toArray⟩ ⟨b.toArray⟩) → Q v { s with toks := k }) →
      wpAny (model cx.prog cx.w) A (call (.builtin id) [.str ⟨a.toArray⟩ t, .str ⟨b.toArray⟩ u]) Q E s) : Ev cx A F s (call (.builtin id) vs) r := by
  intro Q E hQ
  unfold opStr2 at he
  split at he <;> cases he
  obtain ⟨x, y, rfl, qa, qb⟩ := q.two
  obtain ⟨t, rfl, p, z⟩ := qa.str_inv
  obtain ⟨u, rfl, _, _⟩ := qb.str_inv
  exact h _ _ t u p z Q E fun v k rv => hQ v F _ ((Step.refl w).toks k) rv
theorem zkI : OpOK cx .rfind (fun vs => call (.builtin "str.rfind") vs) := by
  intro n A F s vs ds r ok bud w q he
  delta opF at he; dsimp only at he
  exact zd9 w q he fun a b t u p z Q E h => SC.rfind (h _ _ (.val (.int _ _)))
theorem zfB : OpOK cx .startswith (fun vs => call (.builtin "str.startswith") vs) := by
  intro n A F s vs ds r ok bud w q he
  delta opF at he; dsimp only at he
  exact zd9 w q he fun a b t u p z Q E h => SC.startswith (h _ s.toks (.val (.bool _)))
theorem zg8 : OpOK cx .endswith (fun vs => call (.builtin "str.endswith") vs) := by
  intro n A F s vs ds r ok bud w q he
  delta opF at he; dsimp only at he
  exact zd9 w q he fun a b t u p z Q E h => SC.endswith (h _ s.toks (.val (.bool _)))
theorem zd8 (g : Nat → Bool) (l r : Bool) (x : PySem.Str) : (∀ c ∈ (Txt.stripBy g l r x).cps.toList, c ∈ x.cps.toList) ∧ (Txt.stripBy g l r x).cps.size ≤ x.cps.size := by
  unfold Txt.stripBy
  split
  · exact ⟨fun _ h => h, Nat.le_refl _⟩
  · exact ze2 _ _ _
theorem zjg : OpOK cx .rstrip (fun vs => call (.builtin "str.rstrip") vs) := by
  intro n A F s vs ds r ok bud w q he
  delta opF at he; dsimp only at he
  refine zd9 w q he fun a b t u p z Q E h => SC.rstripChars (fun t' k => h _ k (.val ?_)) (by rw [zbn]; exact zaA z)
  have := zd8 (PySem.Str.mk b.toArray).cps.contains false true ⟨a.toArray⟩
  exact zgS p z t' this.1 (by have h2 := this.2; rw [show (PySem.Str.mk a.toArray).cps.size = a.length from List.size_toArray ..] at h2; exact h2)
theorem zji : OpOK cx .lstrip (fun vs => call (.builtin "str.lstrip") vs) := by
  intro n A F s vs ds r ok bud w q he
  delta opF at he; dsimp only at he
  refine zd9 w q he fun a b t u p z Q E h => SC.lstripChars (fun t' k => h _ k (.val ?_)) (by rw [zbn]; exact zaA z)
  have := zd8 (PySem.Str.mk b.toArray).cps.contains true false ⟨a.toArray⟩
  exact zgS p z t' this.1 (by have h2 := this.2; rw [show (PySem.Str.mk a.toArray).cps.size = a.length from List.size_toArray ..] at h2; exact h2)
theorem zin : OpOK cx .replace (fun vs => call (.builtin "str.replace") vs) := by
  intro n A F s vs ds r ok bud w q he Q E hQ
  replace he : opReplace ds = some r := he
  rcases ds with _ | ⟨a0, t0⟩
  · cases he
  cases a0 <;> try (cases he; done)
  all_goals
    rcases t0 with _ | ⟨a1, t1⟩
    · cases he
    cases a1 <;> try (cases he; done)
    rcases t1 with _ | ⟨a2, t2⟩
    · cases he
    cases a2 <;> try (cases he; done)
    rcases t2 with _ | ⟨a3, t3⟩ <;> try (cases he; done)
  · rename_i a b c
    replace he : (if (Builtin.Str.occurrences ⟨a.toArray⟩ ⟨b.toArray⟩ 0 a.length (a.length + 1)).isEmpty = true then some (R.val (.str a)) else none) = some r := he
    split at he <;> cases he
    rename_i hocc
    cases q with | cons q1 q => cases q with | cons q2 q => cases q with | cons q3 q =>
    cases q
    obtain ⟨t, rfl, p, z⟩ := q1.str_inv
    obtain ⟨u, rfl, _, _⟩ := q2.str_inv
    obtain ⟨v, rfl, _, _⟩ := q3.str_inv
    have e : ((occurrences ⟨a.toArray⟩ ⟨b.toArray⟩ 0 (PySem.Str.mk a.toArray).length ((PySem.Str.mk a.toArray).length + 1)).isEmpty || ((PySem.Str.mk b.toArray).length == 0 && (PySem.Str.mk c.toArray).length == 0)) = true := by
      rw [zbn, hocc]; rfl
    obtain ⟨mc, n1, n2⟩ := ok.nb
    refine call_givesAt PySem.F.slot_str_replace (typeIs_str _ _ _) PySem.F.entry_str_replace (PySem.F.args_str_replace_3 _ _ _) (gives_str_replace2 _ _ _ t u v fun h => by rw [e] at h; cases h) ⟨mc, n1.at' fun o g => w.base _ o g ok.limx, n2⟩ ?_
    rw [if_pos e]
    exact hQ _ F _ (Step.refl w) (.val (.str t p z))
end
section
variable {cx : XCx}
theorem ziW {F : Addr → Prop} {h : Heap} : ∀ {l : List D} {ls : List (List Nat)} {vs : List Value}, toStrs l = some ls → RepL cx.T F h vs l →
    ∃ ps : List (PySem.Str × Tok), vs = strValues ps ∧ ps.map (·.1) = ls.map (fun x => PySem.Str.mk x.toArray) ∧ (∀ x ∈ ls, (∀ c ∈ x, c < 0x110000) ∧ x.length ≤ lim)
  | [], ls, _, e, .nil => by cases e; exact ⟨[], rfl, rfl, fun _ h => nomatch h⟩
  | d :: r, ls, _, e, .cons a b => by
    cases d <;> simp only [toStrs] at e <;> try cases e
    obtain ⟨ls', e', rfl⟩ := Option.map_eq_some_iff.mp e
    obtain ⟨ps, rfl, h2, h3⟩ := ziW e' b
    cases a with
    | str t p z =>
      refine ⟨(_, t) :: ps, rfl, by simp [h2], fun x hx => ?_⟩
      rcases List.mem_cons.mp hx with rfl | hx
      · exact ⟨p, z⟩
      · exact h3 x hx
theorem zfd (s : List Nat) : ∀ (ls : List (List Nat)) (acc : List Nat), ((ls.map fun x => PySem.Str.mk x.toArray).foldl (fun (acc : Array Nat) p => acc ++ (PySem.Str.mk s.toArray).cps ++ p.cps) acc.toArray) = (acc ++ (ls.map fun x => s ++ x).flatten).toArray
  | [], acc => by simp
  | x :: r, acc => by
    rw [List.map_cons, List.foldl_cons]
    have e : (acc.toArray ++ (PySem.Str.mk s.toArray).cps ++ (PySem.Str.mk x.toArray).cps) = (acc ++ s ++ x).toArray := by simp
    rw [e, zfd s r]
    simp
theorem zcD (s a : List Nat) : ∀ r : List (List Nat), joinL s (a :: r) = a ++ (r.map fun x => s ++ x).flatten
  | [] => by simp [joinL]
  | b :: r => by
    rw [joinL, zcD s b r]
    · simp
    · intro h; cases h
theorem zfc (s : List Nat) (ls : List (List Nat)) : glued ⟨s.toArray⟩ (ls.map fun x => PySem.Str.mk x.toArray) = ⟨(joinL s ls).toArray⟩ := by
  unfold glued
  cases ls with
  | nil => rfl
  | cons a r =>
    simp only [List.map_cons, List.drop_succ_cons, List.drop_zero, List.headD_cons]
    have := zfd s r a
    simp only [zcD]
    exact congrArg PySem.Str.mk this
theorem zeq {s : List Nat} {c : Nat} : ∀ {ls : List (List Nat)}, c ∈ joinL s ls → c ∈ s ∨ ∃ x ∈ ls, c ∈ x
  | [], h => by simp [joinL] at h
  | a :: r, h => by
    rw [zcD, List.mem_append] at h
    rcases h with h | h
    · exact .inr ⟨a, List.mem_cons_self, h⟩
    · simp only [List.mem_flatten, List.mem_map] at h
      obtain ⟨l, ⟨x, hx, rfl⟩, hc⟩ := h
      rcases List.mem_append.mp hc with h | h
      · exact .inl h
      · exact .inr ⟨x, List.mem_cons_of_mem _ hx, h⟩
theorem zhP (s : PySem.Str) : ∀ (xs : List PySem.Str) (k : Nat), xs.toArray.foldl (fun n x => n + x.length + s.length) k = k + (xs.map fun x => x.length + s.length).sum := by
  intro xs
  induction xs with
  | nil => intro k; simp
  | cons x r ih =>
    intro k
    have := ih (k + x.length + s.length)
    simp only [List.foldl_toArray, List.foldl_cons, List.map_cons, List.sum_cons] at this ⊢
    rw [this, Nat.add_assoc k, Nat.add_assoc k]
theorem zgt (s : List Nat) (a : List Nat) (r : List (List Nat)) : (joinL s (a :: r)).length = a.length + (r.map fun x => s.length + x.length).sum := by
  rw [zcD, List.length_append, List.length_flatten, List.map_map]
  congr 2
  apply List.map_congr_left
  intro x _
  simp
theorem zjN {a s r : Nat} (hz : a + r ≤ 1000000) (z : s ≤ 1000000) : ¬ (a + s + r > 16777216) := by omega
theorem op_join : OpOK cx .join (fun vs => call (.builtin "str.join") vs) := by
  intro n A F s vs ds r ok bud w q he Q E hQ
  delta opF at he; dsimp only at he
  unfold opJoin at he
  split at he
  · rename_i a l
    split at he
    · rename_i ls e1
      split at he <;> cases he
      rename_i hz
      obtain ⟨x, y, rfl, qa, qb⟩ := q.two
      obtain ⟨t, rfl, p, z⟩ := qa.str_inv
      obtain ⟨D, vs, k, rfl, nx, g, zl, ql⟩ := qb.list_inv w
      obtain ⟨ps, rfl, h2, h3⟩ := ziW e1 ql
      refine SC.join (l := ps) (texts := ls.map fun x => PySem.Str.mk x.toArray) (zaI g) h2 ?_ fun t' k => ?_
      · unfold JoinOk tooLong
        rw [zhP, Nat.zero_add, List.map_map]
        simp only [Bool.not_eq_true', decide_eq_false_iff_not]
        rw [sizeLine_eq]
        unfold lim at hz z
        cases ls with
        | nil => simp
        | cons b r =>
          rw [zgt] at hz
          simp only [List.map_cons, List.sum_cons, Function.comp, zbn]
          have e : (List.map ((fun x => x.length + a.length) ∘ fun x => PySem.Str.mk x.toArray) r).sum = (r.map fun x => a.length + x.length).sum := by
            congr 1
            apply List.map_congr_left
            intro x _
            show (PySem.Str.mk x.toArray).length + a.length = _
            rw [zbn, Nat.add_comm]
          rw [e]
          exact zjN hz z
      · unfold Txt.join
        rw [zfc]
        refine hQ _ F _ ((Step.refl w).toks k) (.val (.str t' (fun c hc => ?_) hz))
        rcases zeq hc with hc | ⟨x, hx, hc⟩
        · exact p c hc
        · exact (h3 x hx).1 c hc
    · cases he
  · cases he
theorem zdI {F : Addr → Prop} {h : Heap} (a : List Nat) (p : ∀ c ∈ a, c < 0x110000) (z : a.length ≤ lim) : ∀ {l : List (PySem.Str × Tok)} {xs : List PySem.Str}, l.map (·.1) = xs → (∀ x ∈ xs, (∀ c ∈ x.cps.toList, c ∈ a) ∧ x.cps.size ≤ a.length) →
    RepL cx.T F h (strValues l) (xs.map fun x => .str x.cps.toList)
  | [], _, rfl, _ => .nil
  | (x, t) :: l, _, rfl, hx => by
    have h1 := hx x List.mem_cons_self
    refine .cons (zgS p z t h1.1 h1.2) (zdI a p z rfl fun y hy => hx y (List.mem_cons_of_mem _ hy))
theorem zjf (x y : PySem.Str) : (∀ z ∈ Txt.split x y, (∀ c ∈ z.cps.toList, c ∈ x.cps.toList) ∧ z.cps.size ≤ x.cps.size) := by
  intro z hz
  unfold Txt.split at hz
  have self : ∀ z ∈ [x], (∀ c ∈ z.cps.toList, c ∈ x.cps.toList) ∧ z.cps.size ≤ x.cps.size := fun z hz => by
    rw [List.mem_singleton.mp hz]; exact ⟨fun _ h => h, Nat.le_refl _⟩
  split at hz
  · exact self z hz
  · split at hz
    · exact self z hz
    · unfold partsBetween at hz
      obtain ⟨⟨i, j⟩, _, rfl⟩ := List.mem_map.mp hz
      exact ze2 _ _ _
theorem zdB (x y : PySem.Str) : (Txt.split x y).length ≤ x.length + 2 := by
  unfold Txt.split
  split
  · simp
  · split
    · simp
    · rw [length_partsBetween]
      have := StrLaws.occ_length_le x y 0 x.length (x.length + 1)
      omega
theorem zkH : OpOK cx .split (fun vs => call (.builtin "str.split") vs) := by
  intro n A F s vs ds r ok bud w q he Q E hQ
  delta opF at he; dsimp only at he
  unfold opSplit at he
  split at he
  · rename_i a b
    split at he <;> cases he
    rename_i hz
    obtain ⟨x, y, rfl, qa, qb⟩ := q.two
    obtain ⟨t, rfl, p, z⟩ := qa.str_inv
    obtain ⟨u, rfl, _, _⟩ := qb.str_inv
    have hfin : ∀ (l : List (PySem.Str × Tok)) (k : Nat), l.map (·.1) = Txt.split ⟨a.toArray⟩ ⟨b.toArray⟩ → Q (.ref s.heap.objs.size) { s with heap := s.heap.push (lobj (strValues l).toArray 0), toks := k } := by
      intro l k hl
      have hx : ∀ x ∈ Txt.split ⟨a.toArray⟩ ⟨b.toArray⟩, (∀ c ∈ x.cps.toList, c ∈ a) ∧ x.cps.size ≤ a.length := fun x hx => by
        have h2 := zjf _ _ x hx
        rw [show (PySem.Str.mk a.toArray).cps.size = a.length from List.size_toArray ..] at h2
        exact h2
      have hr := zdI (cx := cx) (F := F) (h := s.heap) a p z hl hx
      have hlen : (strValues l).length ≤ lim := by
        rw [hr.length, List.length_map]
        have := zdB ⟨a.toArray⟩ ⟨b.toArray⟩
        rw [zbn] at this
        omega
      exact hQ _ F _ (Step.push ok w _ _) (.pushOwn w hlen hr)
    have hy : ((PySem.Str.mk b.toArray).length == 0) = false := by rw [zbn, hz.1]; rfl
    have hsz : (PySem.Str.mk a.toArray).length ≤ sizeLine := by rw [zbn]; exact zaA z
    cases h1 : (decide ((PySem.Str.mk a.toArray).length < (PySem.Str.mk b.toArray).length) || decide (strKind ⟨a.toArray⟩ < strKind ⟨b.toArray⟩))
    · cases hf : (occurrences ⟨a.toArray⟩ ⟨b.toArray⟩ 0 (PySem.Str.mk a.toArray).length ((PySem.Str.mk a.toArray).length + 1)).isEmpty
      · have hs : Txt.split ⟨a.toArray⟩ ⟨b.toArray⟩ = partsBetween ⟨a.toArray⟩ (occurrences ⟨a.toArray⟩ ⟨b.toArray⟩ 0 (PySem.Str.mk a.toArray).length ((PySem.Str.mk a.toArray).length + 1)) (PySem.Str.mk b.toArray).length := by
          unfold Txt.split; rw [h1, hf]; rfl
        have hsz2 : (partsBetween ⟨a.toArray⟩ (occurrences ⟨a.toArray⟩ ⟨b.toArray⟩ 0 (PySem.Str.mk a.toArray).length ((PySem.Str.mk a.toArray).length + 1)) (PySem.Str.mk b.toArray).length).length ≤ sizeLine := by
          rw [← hs]
          have := zdB ⟨a.toArray⟩ ⟨b.toArray⟩
          rw [zbn] at this
          exact zaA (by omega)
        refine call_meets PySem.F.slot_str_split (typeIs_str _ _ _) PySem.F.entry_str_split (PySem.F.args_str_split_2 _ _) (meets_str_split_sep _ _ t u h1 hy hf hsz hsz2) ?_
        show wants Q E _ { s with toks := _, heap := s.heap.push { cls := .type "list", data := .seq (strsFrom s.toks (partsBetween _ _ _)).toArray } }
        rw [strsFrom_eq]
        exact hfin (numbered s.toks _) _ ((numbered_texts _ _).trans hs.symm)
      · have hs : Txt.split ⟨a.toArray⟩ ⟨b.toArray⟩ = [⟨a.toArray⟩] := by unfold Txt.split; rw [h1, hf]; rfl
        exact call_meets PySem.F.slot_str_split (typeIs_str _ _ _) PySem.F.entry_str_split (PySem.F.args_str_split_2 _ _) (meets_str_split_not_found _ _ t u h1 hy hf) (hfin [(_, t)] s.toks hs.symm)
    · have hs : Txt.split ⟨a.toArray⟩ ⟨b.toArray⟩ = [⟨a.toArray⟩] := by unfold Txt.split; rw [h1]; rfl
      exact call_meets PySem.F.slot_str_split (typeIs_str _ _ _) PySem.F.entry_str_split (PySem.F.args_str_split_2 _ _) (meets_str_split_cannot_occur _ _ t u h1) (hfin [(_, t)] s.toks hs.symm)
  · cases he
theorem op_tyOf : OpOK cx .tyOf (fun vs => call (.type "type") vs) := by
  intro n A F s vs ds r ok bud w q he Q E hQ
  delta opF at he; dsimp only at he
  rcases ds with _ | ⟨d, _ | ⟨c, t⟩⟩
  · cases he
  · replace he : (tyD d).map (fun n => R.val (.ty n)) = some r := he
    obtain ⟨x, rfl, qa⟩ := q.one
    obtain ⟨T, e1, e2⟩ := Option.map_eq_some_iff.mp he
    cases e2
    have key : s.TypeIs x T ∧ (Value.type T == Value.type "builtin_function_or_method") = false := by
      cases d <;> cases e1
      · rw [qa.bool_inv]; exact ⟨rfl, by decide⟩
      · obtain ⟨t, rfl⟩ := qa.int_inv; exact ⟨typeIs_int s _ _, by decide⟩
      · obtain ⟨t, rfl, _, _⟩ := qa.str_inv; exact ⟨typeIs_str s _ _, by decide⟩
      · obtain ⟨a, vs, n, rfl, nx, g, _, _⟩ := qa.list_inv w; exact ⟨⟨_, g, rfl⟩, by decide⟩
      · obtain ⟨a, vs, n, rfl, f, g, _, _⟩ := qa.tup_inv; exact ⟨⟨_, g, rfl⟩, by decide⟩
      · cases qa with | rep qa => cases qa with | tok f g => exact ⟨⟨_, g, rfl⟩, by decide⟩
    exact call_type_of key.1 key.2 (hQ _ F _ (Step.refl w) (.val (.ty _)))
  · cases he
theorem RepL.two_ty {T : Nat → Addr} {F : Addr → Prop} {h : Heap} {vs : List Value} {a b : String} (q : RepL T F h vs [.ty a, .ty b]) : vs = [.type a, .type b] := by
  cases q with
  | cons qa q => cases q with
    | cons qb q =>
      cases q
      cases qa
      cases qb
      rfl
inductive IsInstI : List D → R → Prop
  | s1 (l : List Nat) : IsInstI [.str l, .ty "str"] (.val (.bool true))
  | s2 (l : List Nat) : IsInstI [.str l, .ty "bytes"] (.val (.bool false))
  | s3 (l : List Nat) : IsInstI [.str l, .tup [.ty "list", .ty "tuple"]] (.val (.bool false))
  | s4 (l : List D) : IsInstI [.list l, .tup [.ty "list", .ty "tuple"]] (.val (.bool true))
theorem zhT {α : Type} {p : Prop} [Decidable p] {x y : α} (h : (if p then some x else none) = some y) : p ∧ x = y := by
  by_cases q : p
  · rw [if_pos q] at h; exact ⟨q, Option.some.inj h⟩
  · rw [if_neg q] at h; cases h
theorem zix {ds : List D} {r : R} (he : opIsInst ds = some r) : IsInstI ds r := by
  rcases ds with _ | ⟨a, t⟩
  · cases he
  cases a <;> try (cases he; done)
  · rcases t with _ | ⟨b, t⟩
    · cases he
    cases b <;> try (cases he; done)
    · rename_i l m
      rcases m with _ | ⟨x, m⟩
      · cases he
      cases x <;> try (cases he; done)
      rcases m with _ | ⟨y, m⟩
      · cases he
      cases y <;> try (cases he; done)
      rcases m with _ | ⟨z, m⟩ <;> try (cases he; done)
      rcases t with _ | ⟨z, t⟩ <;> try (cases he; done)
      obtain ⟨⟨rfl, rfl⟩, rfl⟩ := zhT he
      exact .s3 _
    · rename_i l n
      rcases t with _ | ⟨z, t⟩ <;> try (cases he; done)
      have e : (if n = "str" then some (R.val (.bool true)) else if n = "bytes" then some (.val (.bool false)) else none) = some r := he
      by_cases q : n = "str"
      · rw [if_pos q] at e; cases e; subst q; exact .s1 _
      · rw [if_neg q] at e
        obtain ⟨rfl, rfl⟩ := zhT e
        exact .s2 _
  · rcases t with _ | ⟨b, t⟩
    · cases he
    cases b <;> try (cases he; done)
    rename_i l m
    rcases m with _ | ⟨x, m⟩
    · cases he
    cases x <;> try (cases he; done)
    rcases m with _ | ⟨y, m⟩
    · cases he
    cases y <;> try (cases he; done)
    rcases m with _ | ⟨z, m⟩ <;> try (cases he; done)
    rcases t with _ | ⟨z, t⟩ <;> try (cases he; done)
    obtain ⟨⟨rfl, rfl⟩, rfl⟩ := zhT he
    exact .s4 _
theorem zbz : OpOK cx .isInst (fun vs => call (.builtin "isinstance") vs) := by
  intro n A F s vs ds r ok bud w q he Q E hQ
  cases zix (show opIsInst ds = some r from he) with
  | s1 l =>
    obtain ⟨x, y, rfl, qa, qb⟩ := q.two
    obtain ⟨t, rfl, _, _⟩ := qa.str_inv
    rw [qb.ty_inv]
    exact IsiPair.str_str (hQ _ F _ (Step.refl w) (.val (.bool _)))
  | s2 l =>
    obtain ⟨x, y, rfl, qa, qb⟩ := q.two
    obtain ⟨t, rfl, _, _⟩ := qa.str_inv
    rw [qb.ty_inv]
    exact IsiPair.str_bytes (hQ _ F _ ((Step.refl w).toks _) (.val (.bool _)))
  | s3 l =>
    obtain ⟨x, y, rfl, qa, qb⟩ := q.two
    obtain ⟨t, rfl, _, _⟩ := qa.str_inv
    obtain ⟨a, vs, k, rfl, f, g, z, q3⟩ := qb.tup_inv
    have e2 := q3.two_ty
    subst e2
    exact zgJ g fun tk => hQ _ F _ ((Step.refl w).toks _) (.val (.bool _))
  | s4 l =>
    obtain ⟨x, y, rfl, qa, qb⟩ := q.two
    obtain ⟨l, ws, j, rfl, nx, gl, _, _⟩ := qa.list_inv w
    obtain ⟨a, vs, k, rfl, f, g, z, q3⟩ := qb.tup_inv
    have e2 := q3.two_ty
    subst e2
    exact zfV gl g fun tk => hQ _ F _ ((Step.refl w).toks _) (.val (.bool _))
theorem zjQ {ds : List D} {r : R} (he : opIsSub ds = some r) : ds = [.ty "str", .tup [.ty "str", .ty "bytes"]] ∧ r = .val (.bool true) := by
  rcases ds with _ | ⟨a, t⟩
  · cases he
  cases a <;> try (cases he; done)
  rcases t with _ | ⟨b, t⟩
  · cases he
  cases b <;> try (cases he; done)
  rename_i l m
  rcases m with _ | ⟨x, m⟩
  · cases he
  cases x <;> try (cases he; done)
  rcases m with _ | ⟨y, m⟩
  · cases he
  cases y <;> try (cases he; done)
  rcases m with _ | ⟨z, m⟩ <;> try (cases he; done)
  rcases t with _ | ⟨z, t⟩ <;> try (cases he; done)
  obtain ⟨⟨rfl, rfl, rfl⟩, rfl⟩ := zhT he
  exact ⟨rfl, rfl⟩
theorem zkL : OpOK cx .isSub (fun vs => call (.builtin "issubclass") vs) := by
  intro n A F s vs ds r ok bud w q he Q E hQ
  obtain ⟨rfl, rfl⟩ := zjQ (show opIsSub ds = some r from he)
  obtain ⟨x, y, rfl, qa, qb⟩ := q.two
  rw [qa.ty_inv]
  obtain ⟨a, vs, k, rfl, f, g, z, q3⟩ := qb.tup_inv
  have e2 := q3.two_ty
  subst e2
  exact zdT g fun tk => hQ _ F _ ((Step.refl w).toks _) (.val (.bool _))
end
noncomputable def Mut (env : Env) (ρ : List Slot) (ad : Nat → Addr) (a : Addr) : Prop :=
  a = env.locals ∨ (∃ n, env.cells.lookup n = some a) ∨ ∃ i l, slotAt ρ i = .own l ∧ a = ad i
set_option genInjectivity false in
structure ScOK (ε : Sc) : Prop where
  inj : ∀ x y i, ε.vars.lookup x = some i → ε.vars.lookup y = some i → x = y
set_option genInjectivity false in
structure Frm (cx : XCx) (ε : Sc) (env : Env) (F : Addr → Prop) (s : Shared) (ρ : List Slot) (ad : Nat → Addr) (m cm : Str → Option Value) : Prop where
  en : EnvOK cx ε env F s.heap ρ ad m cm
  lf : ¬ F env.locals
  cf : ∀ n c, env.cells.lookup n = some c → ¬ F c ∧ c ≠ env.locals
  cinj : ∀ n n' c, env.cells.lookup n = some c → env.cells.lookup n' = some c → n = n'
  oinj : ∀ i j l l', slotAt ρ i = .own l → slotAt ρ j = .own l' → ad i = ad j → i = j
  own : ∀ i l, slotAt ρ i = .own l → ¬ F (ad i) ∧ ¬ cx.X (ad i) ∧ (∃ vs n, s.heap.get? (ad i) = some (lobj vs n)) ∧ ad i ≠ env.locals ∧ ∀ n, env.cells.lookup n ≠ some (ad i)
set_option genInjectivity false in
structure StepS (cx : XCx) (env : Env) (F : Addr → Prop) (s : Shared) (ρ : List Slot) (ad : Nat → Addr) (F' : Addr → Prop) (s' : Shared) (ρ' : List Slot) (ad' : Nat → Addr) : Prop where
  sub : ∀ a, F a → F' a
  new : ∀ a, F' a → F a ∨ s.heap.get? a = none ∨ Mut env ρ ad a
  keep : ∀ a o, s.heap.get? a = some o → ¬ cx.X a → ¬ Mut env ρ ad a → s'.heap.get? a = some o
  os : s'.os = s.os
  wd : Wd cx F' s'
  mu : ∀ a, Mut env ρ' ad' a → Mut env ρ ad a ∨ s.heap.get? a = none
theorem zaW (ρ : List Slot) (i : Nat) (sl : Slot) (j : Nat) : slotAt (ρ.set i sl) j = if j = i then (if i < ρ.length then sl else .unset) else slotAt ρ j := by
  unfold slotAt
  simp only [List.getD_eq_getElem?_getD, List.getElem?_set]
  by_cases h : i = j
  · subst h
    simp only [if_true]
    split <;> rfl
  · simp only [if_neg h, if_neg (Ne.symm h)]
theorem zdY {ρ : List Slot} {i : Nat} {l : List D} (h : ownAt ρ i = some l) : slotAt ρ i = .own l ∧ i < ρ.length := by
  unfold ownAt at h
  split at h
  · rename_i l' e
    cases h
    refine ⟨by unfold slotAt; simp [List.getD, e], ?_⟩
    rcases Nat.lt_or_ge i ρ.length with q | q
    · exact q
    · rw [List.getElem?_eq_none q] at e; cases e
  · cases h
section
variable {cx : XCx} {ε : Sc} {env : Env} {F F' F'' : Addr → Prop} {s s' s'' : Shared} {ρ ρ' ρ'' : List Slot} {ad ad' ad'' : Nat → Addr} {m cm : Str → Option Value}
theorem Frm.isSome (f : Frm cx ε env F s ρ ad m cm) {a : Addr} (h : Mut env ρ ad a) : ∃ o, s.heap.get? a = some o := by
  rcases h with rfl | ⟨n, hn⟩ | ⟨i, l, hi, rfl⟩
  · obtain ⟨o, _, _, e, _⟩ := f.en.ns; exact ⟨o, e⟩
  · obtain ⟨o, e, _⟩ := f.en.cells n a hn; exact ⟨o, e⟩
  · obtain ⟨_, _, ⟨vs, n, e⟩, _⟩ := f.own i l hi; exact ⟨_, e⟩
theorem Frm.notF (f : Frm cx ε env F s ρ ad m cm) {a : Addr} (h : Mut env ρ ad a) : ¬ F a ∧ ¬ cx.X a := by
  rcases h with rfl | ⟨n, hn⟩ | ⟨i, l, hi, rfl⟩
  · exact ⟨f.lf, f.en.lx⟩
  · exact ⟨(f.cf n a hn).1, f.en.cxx n a hn⟩
  · exact ⟨(f.own i l hi).1, (f.own i l hi).2.1⟩
theorem StepS.refl (w : Wd cx F s) : StepS cx env F s ρ ad F s ρ ad := ⟨fun _ h => h, fun _ h => .inl h, fun _ _ e _ _ => e, rfl, w, fun _ h => .inl h⟩
theorem StepS.trans (x : StepS cx env F s ρ ad F' s' ρ' ad') (y : StepS cx env F' s' ρ' ad' F'' s'' ρ'' ad'') : StepS cx env F s ρ ad F'' s'' ρ'' ad'' := by
  have back : ∀ a, ¬ cx.X a → s'.heap.get? a = none → Mut env ρ ad a ∨ s.heap.get? a = none := fun a nx h => by
    by_cases hm : Mut env ρ ad a
    · exact .inl hm
    · right
      cases e : s.heap.get? a with
      | none => rfl
      | some o => rw [x.keep a o e nx hm] at h; cases h
  refine ⟨fun a h => y.sub a (x.sub a h), fun a h => ?_, fun a o e nx nm => ?_, y.os.trans x.os, y.wd, fun a h => ?_⟩
  · rcases y.new a h with q | q | q
    · exact x.new a q
    · rcases back a (y.wd.nx a h) q with q | q
      · exact .inr (.inr q)
      · exact .inr (.inl q)
    · rcases x.mu a q with q | q
      · exact .inr (.inr q)
      · exact .inr (.inl q)
  · refine y.keep a o (x.keep a o e nx nm) nx fun hm => ?_
    rcases x.mu a hm with q | q
    · exact nm q
    · rw [e] at q; cases q
  · rcases y.mu a h with q | q
    · exact x.mu a q
    · by_cases nx : cx.X a
      · obtain ⟨o, e⟩ := x.wd.xex a nx
        rw [e] at q; cases q
      · exact back a nx q
theorem StepS.ofStep (x : Step cx F s F' s') : StepS cx env F s ρ ad F' s' ρ ad := ⟨x.sub, fun a h => (x.new a h).imp id .inl, fun a o e nx _ => x.keep a o e nx, x.os, x.wd, fun _ h => .inl h⟩
theorem Frm.step (f : Frm cx ε env F s ρ ad m cm) (w : Wd cx F s) (x : Step cx F s F' s') : Frm cx ε env F' s' ρ ad m cm := by
  have nf : ∀ {a}, Mut env ρ ad a → ¬ F' a := fun h => by
    obtain ⟨o, e⟩ := f.isSome h
    exact x.notF (f.notF h).1 e
  refine ⟨f.en.step x w, nf (.inl rfl), fun n c hc => ⟨nf (.inr (.inl ⟨n, hc⟩)), (f.cf n c hc).2⟩, f.cinj, f.oinj, fun i l hi => ?_⟩
  obtain ⟨_, nx, ⟨vs, n, e⟩, h4, h5⟩ := f.own i l hi
  exact ⟨nf (.inr (.inr ⟨i, l, hi, rfl⟩)), nx, ⟨vs, n, x.keep _ _ e nx⟩, h4, h5⟩
end
set_option genInjectivity false in
structure HereS (cx : XCx) (ε : Sc) (n : Nat) (cf : Nat → List D → Option D) (A : Around) (env : Env) (F : Addr → Prop) (s : Shared) (ρ : List Slot) (ad : Nat → Addr) (m cm : Str → Option Value) : Prop where
  ok : CxOk cx
  sc : ScOK ε
  calls : CallOK cx n cf
  bud : BudE n A
  wd : Wd cx F s
  frm : Frm cx ε env F s ρ ad m cm
theorem HereS.here {cx ε n cf A env F s ρ ad m cm} (H : HereS cx ε n cf A env F s ρ ad m cm) : Here cx ε n cf A env F s ρ ad m cm := ⟨H.ok, H.calls, H.bud, H.wd, H.frm.en⟩
theorem HereS.step {cx ε n cf A env F s ρ ad m cm} {F' : Addr → Prop} {s' : Shared} (H : HereS cx ε n cf A env F s ρ ad m cm) (x : Step cx F s F' s') : HereS cx ε n cf A env F' s' ρ ad m cm := ⟨H.ok, H.sc, H.calls, H.bud, x.wd, H.frm.step H.wd x⟩
theorem HereS.stepS {cx ε n cf A env F s ρ ad m cm} {F' : Addr → Prop} {s' : Shared} {ρ' ad' m' cm'} (H : HereS cx ε n cf A env F s ρ ad m cm) (x : StepS cx env F s ρ ad F' s' ρ' ad') (f : Frm cx ε env F' s' ρ' ad' m' cm') : HereS cx ε n cf A env F' s' ρ' ad' m' cm' := ⟨H.ok, H.sc, H.calls, H.bud, x.wd, f⟩
inductive OutRep (cx : XCx) (F : Addr → Prop) (h : Heap) : Flow → Out → Prop
  | next : OutRep cx F h .next .next
  | brk : OutRep cx F h .brk .brk
  | cont : OutRep cx F h .cont .cont
  | ret {v : Value} {d : D} : Rep cx.T F h v d → OutRep cx F h (.ret v) (.ret d)
noncomputable def PostS (cx : XCx) (ε : Sc) (env : Env) (F : Addr → Prop) (s : Shared) (ρ : List Slot) (ad : Nat → Addr) (ρ' : List Slot) (o : Out) (Q : Flow → Shared → Prop) : Prop :=
  ∀ f F' s' ad' m' cm', StepS cx env F s ρ ad F' s' ρ' ad' → Frm cx ε env F' s' ρ' ad' m' cm' → OutRep cx F' s'.heap f o → Q f s'
theorem PostS.after {cx ε env F s ρ ad ρ' o Q} {F₁ : Addr → Prop} {s₁ : Shared} {ρ₁ ad₁} (h : PostS cx ε env F s ρ ad ρ' o Q) (x : StepS cx env F s ρ ad F₁ s₁ ρ₁ ad₁) : PostS cx ε env F₁ s₁ ρ₁ ad₁ ρ' o Q :=
  fun f F' s' ad' m' cm' y fr q => h f F' s' ad' m' cm' (x.trans y) fr q
noncomputable def SoundS (cx : XCx) (ε : Sc) (st : Stmt) (sx : S) : Prop :=
  ∀ n cf A env F s ρ ad m cm, HereS cx ε n cf A env F s ρ ad m cm → ∀ ρ' o, ex cf sx ρ = some (ρ', o) → ∀ Q E, PostS cx ε env F s ρ ad ρ' o Q → wpAny (model cx.prog cx.w) A (exec st env) Q E s
noncomputable def SoundSs (cx : XCx) (ε : Sc) (sts : List Stmt) (sx : S) : Prop :=
  ∀ n cf A env F s ρ ad m cm, HereS cx ε n cf A env F s ρ ad m cm → ∀ ρ' o, ex cf sx ρ = some (ρ', o) → ∀ Q E, PostS cx ε env F s ρ ad ρ' o Q → wpAny (model cx.prog cx.w) A (execs sts env) Q E s
theorem zlw {cf : Nat → List D → Option D} {a b : S} {ρ : List Slot} : ex cf (.seq a b) ρ = (match ex cf a ρ with
    | some (ρ', .next) => ex cf b ρ'
    | some (ρ', o) => some (ρ', o)
    | Option.none => Option.none) := by 
  exact zj0 cf
theorem ex_fz {cf : Nat → List D → Option D} {i : Nat} {ρ : List Slot} : ex cf (.fz i) ρ = (match ownAt ρ i with
    | some l => some (ρ.set i (.val (.list l)), .next)
    | Option.none => some (ρ, .next)) := by 
  exact exq_fz cf
section
variable {cx : XCx} {ε : Sc}
theorem zac : SoundSs cx ε [] .skip := by
  intro n cf A env F s ρ ad m cm H ρ' o h Q E hQ
  replace h := (zhX cf).symm.trans h; cases h
  exact wpAny_execs_nil (hQ .next F s ad m cm (StepS.refl H.wd) H.frm .next)
theorem zaa {st : Stmt} {sts : List Stmt} {a b : S} (h1 : SoundS cx ε st a) (h2 : SoundSs cx ε sts b) : SoundSs cx ε (st :: sts) (.seq a b) := by
  intro n cf A env F s ρ ad m cm H ρ' o h Q E hQ
  refine wpAny_execs_cons ?_
  replace h := (zj0 cf).symm.trans h
  split at h
  · rename_i ρ₁ e1
    refine h1 n cf A env F s ρ ad m cm H ρ₁ .next e1 _ _ fun f F' s' ad' m' cm' x fr q => ?_
    cases q
    exact h2 n cf A env F' s' ρ₁ ad' m' cm' (H.stepS x fr) ρ' o h _ _ (hQ.after x)
  · rename_i ρ₁ o₁ hne e1
    cases h
    refine h1 n cf A env F s ρ ad m cm H _ _ e1 _ _ fun f F' s' ad' m' cm' x fr q => ?_
    cases q with
    | next => exact (hne rfl).elim
    | brk => exact hQ _ F' s' ad' m' cm' x fr .brk
    | cont => exact hQ _ F' s' ad' m' cm' x fr .cont
    | ret r => exact hQ _ F' s' ad' m' cm' x fr (.ret r)
  · cases h
theorem frozen {n cf A env F s ρ ad m cm} (H : HereS cx ε n cf A env F s ρ ad m cm) {i : Nat} {l : List D} (h : ownAt ρ i = some l) (hv : ∃ x, ε.vars.lookup x = some i) :
    ∃ F', StepS cx env F s ρ ad F' s (ρ.set i (.val (.list l))) ad ∧ Frm cx ε env F' s (ρ.set i (.val (.list l))) ad m cm := by
  obtain ⟨hs, hlt⟩ := zdY h
  obtain ⟨x, hx⟩ := hv
  have f := H.frm
  obtain ⟨nf, nx, ⟨vs0, n0, e0⟩, h4, h5⟩ := f.own i l hs
  have hsr : ∃ ov, SlotRep cx F s.heap ad i ov (.own l) := by
    rcases f.en.vars x i hx with ⟨_, q⟩ | ⟨_, _, q⟩ <;> rw [hs] at q <;> exact ⟨_, q⟩
  obtain ⟨ov, q⟩ := hsr
  cases q with
  | own _ _ g z q =>
  have hset : ∀ j, slotAt (ρ.set i (.val (.list l))) j = if j = i then .val (.list l) else slotAt ρ j := fun j => by rw [zaW, if_pos hlt]
  have hsub : ∀ a, F a → (F a ∨ a = ad i) := fun _ h => .inl h
  have wd' : Wd cx (fun a => F a ∨ a = ad i) s := ⟨H.wd.base, H.ok.xi _ _ _ _ H.wd.xi hsub (fun _ _ _ e => e), H.wd.gens, fun a o h nx => .inl (H.wd.f0 a o h nx), fun a h => h.elim (H.wd.lt a) fun e => ⟨_, e ▸ g⟩, fun a h => h.elim (H.wd.nx a) fun e => e ▸ nx, H.wd.xex⟩
  have slots : ∀ j ov, SlotRep cx F s.heap ad j ov (slotAt ρ j) → SlotRep cx (fun a => F a ∨ a = ad i) s.heap ad j ov (slotAt (ρ.set i (.val (.list l))) j) := by
    intro j ov q'
    rw [hset]
    by_cases hj : j = i
    · subst hj
      rw [if_pos rfl]
      rw [hs] at q'
      cases q' with
      | own _ _ g z q => exact .val (.list (.inr rfl) g z (q.mono hsub fun _ _ _ e => e))
    · rw [if_neg hj]
      generalize hsl : slotAt ρ j = sl at q'
      cases q' with
      | unset => exact .unset
      | val q => exact .val (q.mono hsub fun _ _ _ e => e)
      | own nf' nx' g z q => exact .own (fun h => h.elim nf' fun e => hj (f.oinj j i _ _ hsl hs e)) nx' g z (q.mono hsub fun _ _ _ e => e)
      | app a b c => exact .app (.inl a) b c
  refine ⟨fun a => F a ∨ a = ad i, ⟨hsub, fun a h => h.imp id fun e => .inr (.inr (.inr ⟨i, l, hs, e⟩)), fun _ _ e _ _ => e, rfl, wd', fun a h => ?_⟩, ?_⟩
  · rcases h with h | h | ⟨j, l', hj, rfl⟩
    · exact .inl (.inl h)
    · exact .inl (.inr (.inl h))
    · rw [hset] at hj
      split at hj
      · cases hj
      · exact .inl (.inr (.inr ⟨j, l', hj, rfl⟩))
  · refine ⟨⟨f.en.kind, f.en.names, f.en.glob, f.en.blt, f.en.code, f.en.lx, f.en.cxx, f.en.ns, f.en.cells, fun y j hy => (f.en.vars y j hy).imp (fun ⟨k, q⟩ => ⟨k, slots j _ q⟩) fun ⟨k, c, q⟩ => ⟨k, c, slots j _ q⟩⟩,
      fun h => h.elim f.lf fun e => h4 e.symm, fun n c hc => ⟨fun h => h.elim (f.cf n c hc).1 fun e => h5 n (e ▸ hc), (f.cf n c hc).2⟩, f.cinj, fun j k l1 l2 h1 h2 e => ?_, fun j l1 h1 => ?_⟩
    · rw [hset] at h1 h2
      split at h1
      · cases h1
      · split at h2
        · cases h2
        · exact f.oinj j k _ _ h1 h2 e
    · rw [hset] at h1
      split at h1
      · cases h1
      · rename_i hj
        obtain ⟨a1, a2, a3, a4, a5⟩ := f.own j l1 h1
        exact ⟨fun h => h.elim a1 fun e => hj (f.oinj j i _ _ h1 hs e), a2, a3, a4, a5⟩
theorem zed {st : Stmt} {i : Nat} {b : S} (hv : ∃ x, ε.vars.lookup x = some i) (h : SoundS cx ε st b) : SoundS cx ε st (.seq (.fz i) b) := by
  intro n cf A env F s ρ ad m cm H ρ' o he Q E hQ
  rw [zlw, ex_fz] at he
  cases hown : ownAt ρ i with
  | none =>
    rw [hown] at he
    exact h n cf A env F s ρ ad m cm H ρ' o he Q E hQ
  | some l =>
    rw [hown] at he
    obtain ⟨F', x, f⟩ := frozen H hown hv
    exact h n cf A env F' s _ ad m cm (H.stepS x f) ρ' o he Q E (hQ.after x)
end
section
variable {cx : XCx} {ε : Sc} {n : Nat} {cf : Nat → List D → Option D} {A : Around} {env : Env} {F F₀ : Addr → Prop} {s s₀ : Shared} {ρ : List Slot} {ad ad' : Nat → Addr} {m cm m' cm' : Str → Option Value}
theorem zhg (H : HereS cx ε n cf A env F s ρ ad m cm) {b : Addr} (hb : Mut env ρ ad b) {h' : Heap} (sb : Heap.SameBut b s.heap h') (k : Nat) :
    Wd cx F { s with heap := h', toks := k } ∧ (∀ a o, F a → s.heap.get? a = some o → h'.get? a = some o) := by
  obtain ⟨nf, nx⟩ := H.frm.notF hb
  have hk : ∀ a o, a ≠ b → s.heap.get? a = some o → h'.get? a = some o := fun a o h e => (sb.2 a h).trans e
  have fne : ∀ a, F a → a ≠ b := fun a h e => nf (e ▸ h)
  refine ⟨⟨fun a o e x => hk a o (fne a (H.wd.f0 a o e x)) (H.wd.base a o e x), H.ok.xi _ _ _ _ H.wd.xi (fun _ h => h) (fun a o h e => hk a o (h.elim (fne a) fun h e => nx (e ▸ h)) e), H.wd.gens, H.wd.f0, fun a f => let ⟨o, e⟩ := H.wd.lt a f; ⟨o, hk a o (fne a f) e⟩, H.wd.nx,
    fun a f => let ⟨o, e⟩ := H.wd.xex a f; ⟨o, hk a o (fun e => nx (e ▸ f)) e⟩⟩, fun a o f e => hk a o (fne a f) e⟩
theorem zeg (H₀ : HereS cx ε n cf A env F₀ s₀ ρ ad m cm) (x : Step cx F₀ s₀ F s) {b : Addr} (hb : Mut env ρ ad b) {h' : Heap} (sb : Heap.SameBut b s.heap h') (k : Nat) {i : Nat} {sl : Slot}
    (hmu : ∀ l, sl = .own l → Mut env ρ ad (ad' i) ∨ s₀.heap.get? (ad' i) = none) (had : ∀ j, j ≠ i → ad' j = ad j) : StepS cx env F₀ s₀ ρ ad F { s with heap := h', toks := k } (ρ.set i sl) ad' := by
  refine ⟨x.sub, fun a h => (x.new a h).imp id .inl, fun a o e nx nm => ?_, x.os, (zhg (H₀.step x) hb sb k).1, fun a h => ?_⟩
  · exact (sb.2 a fun e => nm (e ▸ hb)).trans (x.keep a o e nx)
  · rcases h with h | h | ⟨j, l, hj, rfl⟩
    · exact .inl (.inl h)
    · exact .inl (.inr (.inl h))
    · rw [zaW] at hj
      by_cases e : j = i
      · subst e
        rw [if_pos rfl] at hj
        split at hj
        · exact hmu l hj
        · cases hj
      · rw [if_neg e] at hj
        rw [had j e]
        exact .inl (.inr (.inr ⟨j, l, hj, rfl⟩))
set_option genInjectivity false in
structure NewOwn (cx : XCx) (env : Env) (F : Addr → Prop) (h' : Heap) (ρ : List Slot) (ad ad' : Nat → Addr) (i : Nat) : Prop where
  nf : ¬ F (ad' i)
  nx : ¬ cx.X (ad' i)
  is : ∃ vs n, h'.get? (ad' i) = some (lobj vs n)
  nl : ad' i ≠ env.locals
  nc : ∀ n, env.cells.lookup n ≠ some (ad' i)
  oth : ∀ j l, j ≠ i → slotAt ρ j = .own l → ad j ≠ ad' i
theorem Frm.put (H : HereS cx ε n cf A env F s ρ ad m cm) {b : Addr} (hb : Mut env ρ ad b) {h' : Heap} (sb : Heap.SameBut b s.heap h') (k : Nat) {i : Nat} {sl : Slot}
    (hns : h'.Ns env.locals m') (hcells : ∀ n c, env.cells.lookup n = some c → h'.IsCell c (cm' n))
    (hvars : ∀ x j, ε.vars.lookup x = some j → j ≠ i → m' x = m x ∧ cm' x = cm x)
    (hnew : ∀ x, ε.vars.lookup x = some i → (ε.kinds.lookup x = some .local → SlotRep cx F h' ad' i (m' x) sl) ∧ (ε.kinds.lookup x ≠ some .local → SlotRep cx F h' ad' i (cm' x) sl))
    (had : ∀ j, j ≠ i → ad' j = ad j) (happ : ad' i = ad i ∨ ∀ j, slotAt ρ j ≠ .app i)
    (hbo : ∀ j l, slotAt ρ j = .own l → j ≠ i → ad j ≠ b) (hown : ∀ l, sl = .own l → NewOwn cx env F h' ρ ad ad' i) :
    Frm cx ε env F { s with heap := h', toks := k } (ρ.set i sl) ad' m' cm' := by
  have f := H.frm
  obtain ⟨w', keep⟩ := zhg H hb sb k
  have keepB : ∀ a o, a ≠ b → s.heap.get? a = some o → h'.get? a = some o := fun a o h e => (sb.2 a h).trans e
  have old : ∀ j ov, j ≠ i → SlotRep cx F s.heap ad j ov (slotAt ρ j) → SlotRep cx F h' ad' j ov (slotAt ρ j) := by
    intro j ov hj q
    have hbo := fun l e => hbo j l e hj
    have happ := happ.imp id fun h => h j
    generalize slotAt ρ j = x at q hbo happ
    cases q with
    | unset => exact .unset
    | val q => exact .val (q.mono (fun _ h => h) keep)
    | own nf nx g z q =>
      rw [← had j hj] at nf nx g ⊢
      exact .own nf nx (keepB _ _ (by rw [had j hj]; exact hbo _ rfl) g) z (q.mono (fun _ h => h) keep)
    | @app b' o k fb g e =>
      refine .app fb (keep _ _ fb g) ?_
      by_cases hk : k = i
      · subst hk
        rcases happ with h | h
        · rw [h]; exact e
        · exact absurd rfl h
      · rw [had k hk]; exact e
  have slots : ∀ x j, ε.vars.lookup x = some j →
    (ε.kinds.lookup x = some .local ∧ SlotRep cx F h' ad' j (m' x) (slotAt (ρ.set i sl) j)) ∨
    ((ε.kinds.lookup x = some .cell ∨ ε.kinds.lookup x = some .free) ∧ (∃ c, env.cells.lookup x = some c) ∧ SlotRep cx F h' ad' j (cm' x) (slotAt (ρ.set i sl) j)) := by
    intro x j hx
    rw [zaW]
    by_cases e : j = i
    · subst e
      rw [if_pos rfl]
      have nl : ∀ {k : NameKind}, ε.kinds.lookup x = some k → k ≠ .local → ε.kinds.lookup x ≠ some .local := fun h hk e => hk (by rw [h] at e; exact Option.some.inj e)
      rcases f.en.vars x j hx with ⟨k, q⟩ | ⟨k, c, q⟩
      · left
        refine ⟨k, ?_⟩
        split
        · exact (hnew x hx).1 k
        · exact .unset
      · right
        refine ⟨k, c, ?_⟩
        split
        · refine (hnew x hx).2 fun e => ?_
          rw [e] at k; rcases k with k | k <;> cases k
        · exact .unset
    · rw [if_neg e]
      obtain ⟨e1, e2⟩ := hvars x j hx e
      rw [e1, e2]
      exact (f.en.vars x j hx).imp (fun ⟨k, q⟩ => ⟨k, old j _ e q⟩) fun ⟨k, c, q⟩ => ⟨k, c, old j _ e q⟩
  refine ⟨⟨f.en.kind, f.en.names, f.en.glob, f.en.blt, f.en.code, f.en.lx, f.en.cxx, hns, hcells, slots⟩, f.lf, f.cf, f.cinj, fun p q l1 l2 h1 h2 e => ?_, fun j l hj => ?_⟩
  · rw [zaW] at h1 h2
    by_cases hp : p = i
    · by_cases hq : q = i
      · rw [hp, hq]
      · subst hp
        rw [if_pos rfl] at h1
        rw [if_neg hq] at h2
        split at h1
        · have := (hown l1 h1).oth q l2 hq h2
          rw [had q hq] at e
          exact absurd e.symm this
        · cases h1
    · by_cases hq : q = i
      · subst hq
        rw [if_neg hp] at h1
        rw [if_pos rfl] at h2
        split at h2
        · have := (hown l2 h2).oth p l1 hp h1
          rw [had p hp] at e
          exact absurd e this
        · cases h2
      · rw [if_neg hp] at h1
        rw [if_neg hq] at h2
        rw [had p hp, had q hq] at e
        exact f.oinj p q l1 l2 h1 h2 e
  · rw [zaW] at hj
    by_cases e : j = i
    · subst e
      rw [if_pos rfl] at hj
      split at hj
      · have q := hown l hj
        exact ⟨q.nf, q.nx, q.is, q.nl, q.nc⟩
      · cases hj
    · rw [if_neg e] at hj
      rw [had j e]
      obtain ⟨a1, a2, ⟨vs, n, g⟩, a4, a5⟩ := f.own j l hj
      exact ⟨a1, a2, ⟨vs, n, keepB _ _ (hbo j l hj e) g⟩, a4, a5⟩
theorem zcw (H₀ : HereS cx ε n cf A env F₀ s₀ ρ ad m cm) (st : Step cx F₀ s₀ F s) {x : Str} {i : Nat} (hx : ε.vars.lookup x = some i) (hfree : ε.kinds.lookup x ≠ some .free) {v : Value} {sl : Slot}
    (had : ∀ j, j ≠ i → ad' j = ad j) (happ : ad' i = ad i ∨ ∀ j, slotAt ρ j ≠ .app i)
    (hv : ∀ h', (∀ a o, F a ∨ ¬ Mut env ρ ad a → s.heap.get? a = some o → h'.get? a = some o) → SlotRep cx F h' ad' i (some v) sl)
    (hmu : ∀ l, sl = .own l → s₀.heap.get? (ad' i) = none ∧ ¬ F (ad' i) ∧ ¬ cx.X (ad' i) ∧ ∃ vs n, s.heap.get? (ad' i) = some (lobj vs n))
    {Q : Unit → Shared → Prop} {E : Value → Shared → Prop}
    (hQ : ∀ s' m' cm', (∀ a o, ¬ Mut env ρ ad a → s.heap.get? a = some o → s'.heap.get? a = some o) → StepS cx env F₀ s₀ ρ ad F s' (ρ.set i sl) ad' → Frm cx ε env F s' (ρ.set i sl) ad' m' cm' → Q () s') :
    wpAny (model cx.prog cx.w) A (storeName env x v) Q E s := by
  have H := H₀.step st
  have f := H.frm
  have notMut : ∀ l, sl = .own l → ¬ Mut env ρ ad (ad' i) := fun l hl hm => by
    obtain ⟨o, e⟩ := H₀.frm.isSome hm
    rw [(hmu l hl).1] at e; cases e
  have mkOwn : ∀ h', (∀ a o, ¬ Mut env ρ ad a → s.heap.get? a = some o → h'.get? a = some o) → ∀ l, sl = .own l → NewOwn cx env F h' ρ ad ad' i := by
    intro h' hk l hl
    obtain ⟨a1, a2, a3, vs, n, a4⟩ := hmu l hl
    have nm := notMut l hl
    exact ⟨a2, a3, ⟨vs, n, hk _ _ nm a4⟩, fun e => nm (.inl e), fun n e => nm (.inr (.inl ⟨n, e⟩)), fun j l' hj hs e => nm (.inr (.inr ⟨j, l', hs, e.symm⟩))⟩
  have others : ∀ y j, ε.vars.lookup y = some j → j ≠ i → y ≠ x := fun y j hy hj e => hj (by subst e; rw [hx] at hy; exact (Option.some.inj hy).symm)
  have same : ∀ y, ε.vars.lookup y = some i → y = x := fun y hy => H.sc.inj y x i hy hx
  rcases f.en.vars x i hx with ⟨hk, _⟩ | ⟨hk, ⟨c, hc⟩, _⟩
  · have hl : env.kindOf x = some .local := by unfold Env.kindOf; rw [f.en.names]; exact hk
    have hp : (env.scope.kind == .class || (env.scope.kind == .module && env.locals != env.globals)) = false := by rw [f.en.kind]; rfl
    refine wpAny_storeName_local hl f.en.ns (fun h' hn sb => ?_) hp
    have hb : Mut env ρ ad env.locals := .inl rfl
    have hk1 : ∀ a o, ¬ Mut env ρ ad a → s.heap.get? a = some o → h'.get? a = some o := fun a o nm e => (sb.2 a fun e => nm (e ▸ hb)).trans e
    have hk2 : ∀ a o, F a ∨ ¬ Mut env ρ ad a → s.heap.get? a = some o → h'.get? a = some o := fun a o nm e => nm.elim (fun h => (sb.2 a fun e => f.lf (e ▸ h)).trans e) fun h => hk1 a o h e
    refine hQ _ (fun y => if y = x then some v else m y) cm hk1 (zeg H₀ st hb sb _ (fun l hl => .inr (hmu l hl).1) had) ?_
    refine Frm.put H hb sb _ hn (fun n c hc => ?_) (fun y j hy hj => ⟨if_neg (others y j hy hj), rfl⟩) (fun y hy => ?_) had happ (fun j l hs _ => (f.own j l hs).2.2.2.1) (mkOwn h' hk1)
    · obtain ⟨o, g, d⟩ := f.en.cells n c hc
      exact ⟨o, (sb.2 c (f.cf n c hc).2).trans g, d⟩
    · have ey := same y hy
      refine ⟨fun _ => ?_, fun h => absurd (ey ▸ hk) h⟩
      show SlotRep cx F h' ad' i (if y = x then some v else m y) sl
      rw [if_pos ey]
      exact hv h' hk2
  · have hl : env.kindOf x = some .cell := by
      unfold Env.kindOf; rw [f.en.names]
      exact hk.resolve_right hfree
    refine wpAny_storeName_cell f.en.kind hl hc (f.en.cells x c hc) (fun h' hn sb => ?_)
    have hb : Mut env ρ ad c := .inr (.inl ⟨x, hc⟩)
    have hk1 : ∀ a o, ¬ Mut env ρ ad a → s.heap.get? a = some o → h'.get? a = some o := fun a o nm e => (sb.2 a fun e => nm (e ▸ hb)).trans e
    have hk2 : ∀ a o, F a ∨ ¬ Mut env ρ ad a → s.heap.get? a = some o → h'.get? a = some o := fun a o nm e => nm.elim (fun h => (sb.2 a fun e => (f.cf x c hc).1 (e ▸ h)).trans e) fun h => hk1 a o h e
    refine hQ _ m (fun y => if y = x then some v else cm y) hk1 (zeg H₀ st hb sb s.toks (fun l hl => .inr (hmu l hl).1) had) ?_
    refine Frm.put H hb sb _ (f.en.ns.sameBut sb (Ne.symm (f.cf x c hc).2)) (fun n c' hc' => ?_) (fun y j hy hj => ⟨rfl, if_neg (others y j hy hj)⟩) (fun y hy => ?_) had happ (fun j l hs _ e => (f.own j l hs).2.2.2.2 x (e ▸ hc)) (mkOwn h' hk1)
    · by_cases e : n = x
      · subst e
        rw [hc] at hc'; cases hc'
        rw [if_pos rfl]
        exact hn
      · rw [if_neg e]
        obtain ⟨o, g, d⟩ := f.en.cells n c' hc'
        exact ⟨o, (sb.2 c' fun e' => e (f.cinj n x c (e' ▸ hc') hc)).trans g, d⟩
    · have ey := same y hy
      refine ⟨fun h => ?_, fun _ => ?_⟩
      · rw [ey] at h; rw [h] at hk; rcases hk with hk | hk <;> cases hk
      · show SlotRep cx F h' ad' i (if y = x then some v else cm y) sl
        rw [if_pos ey]
        exact hv h' hk2
theorem zea (H₀ : HereS cx ε n cf A env F₀ s₀ ρ ad m cm) (st : Step cx F₀ s₀ F s) {x : Str} {i : Nat} (hx : ε.vars.lookup x = some i) (hfree : ε.kinds.lookup x ≠ some .free) {v : Value} {sl : Slot}
    (had : ∀ j, j ≠ i → ad' j = ad j) (happ : ad' i = ad i ∨ ∀ j, slotAt ρ j ≠ .app i)
    (hv : ∀ h', (∀ a o, F a ∨ ¬ Mut env ρ ad a → s.heap.get? a = some o → h'.get? a = some o) → SlotRep cx F h' ad' i (some v) sl)
    (hmu : ∀ l, sl = .own l → s₀.heap.get? (ad' i) = none ∧ ¬ F (ad' i) ∧ ¬ cx.X (ad' i) ∧ ∃ vs n, s.heap.get? (ad' i) = some (lobj vs n))
    {Q : Unit → Shared → Prop} {E : Value → Shared → Prop}
    (hQ : ∀ s' m' cm', StepS cx env F₀ s₀ ρ ad F s' (ρ.set i sl) ad' → Frm cx ε env F s' (ρ.set i sl) ad' m' cm' → Q () s') :
    wpAny (model cx.prog cx.w) A (storeName env x v) Q E s := zcw H₀ st hx hfree had happ hv hmu fun s' m' cm' _ => hQ s' m' cm'
end
section
variable {cx : XCx} {ε : Sc} {n : Nat} {cf : Nat → List D → Option D} {A : Around} {env : Env} {F F₀ F' : Addr → Prop} {s s₀ s' : Shared} {ρ ρ' : List Slot} {ad ad' : Nat → Addr} {m cm m' cm' : Str → Option Value}
theorem StepS.rep (x : StepS cx env F s ρ ad F' s' ρ' ad') (H : HereS cx ε n cf A env F s ρ ad m cm) {v : Value} {d : D} (r : Rep cx.T F s.heap v d) : Rep cx.T F' s'.heap v d :=
  r.mono x.sub fun a o f e => x.keep a o e (H.wd.nx a f) fun hm => (H.frm.notF hm).1 f
theorem StepS.repL (x : StepS cx env F s ρ ad F' s' ρ' ad') (H : HereS cx ε n cf A env F s ρ ad m cm) {v : List Value} {d : List D} (r : RepL cx.T F s.heap v d) : RepL cx.T F' s'.heap v d :=
  r.mono x.sub fun a o f e => x.keep a o e (H.wd.nx a f) fun hm => (H.frm.notF hm).1 f
theorem zcl (H₀ : HereS cx ε n cf A env F₀ s₀ ρ ad m cm) (st : Step cx F₀ s₀ F s) {x : Str} {i : Nat} (hx : ε.vars.lookup x = some i) (hfree : ε.kinds.lookup x ≠ some .free) {v : Value} {d : D} (hv : Rep cx.T F s.heap v d)
    {Q : Unit → Shared → Prop} {E : Value → Shared → Prop}
    (hQ : ∀ s' m' cm', StepS cx env F₀ s₀ ρ ad F s' (ρ.set i (.val d)) ad → Frm cx ε env F s' (ρ.set i (.val d)) ad m' cm' → Q () s') :
    wpAny (model cx.prog cx.w) A (storeName env x v) Q E s :=
  zea H₀ st hx hfree (sl := .val d) (ad' := ad) (fun _ _ => rfl) (.inl rfl) (fun h' hk => .val (hv.mono (fun _ h => h) fun a o f e => hk a o (.inl f) e)) (fun _ e => nomatch e) hQ
theorem zhm {x : X} {d : D} (h : ev1 cf x ρ = some d) : ∃ r, ev cf x ρ = some [r] ∧ r.fz = some d := by
  unfold ev1 at h
  split at h
  · rename_i r e; exact ⟨r, e, h⟩
  · cases h
theorem zeu (H : HereS cx ε n cf A env F s ρ ad m cm) {e : Expr} {x : X} (h : Sound cx ε e x) {d : D} (hd : ev1 cf x ρ = some d) {Q : Value → Shared → Prop} {E : Value → Shared → Prop}
    (hQ : ∀ v F' s', Step cx F s F' s' → Rep cx.T F' s'.heap v d → Q v s') : wpAny (model cx.prog cx.w) A (eval e env) Q E s := by
  obtain ⟨r, e1, e2⟩ := zhm hd
  refine h.ev n cf A env F s ρ ad m cm H.here r e1 _ _ fun v F' s' st q => ?_
  obtain ⟨F'', st', _, q'⟩ := st.fz H.ok H.wd q e2
  exact hQ v F'' s' st' q'
end
section
variable {cx : XCx} {ε : Sc}
theorem zgg {pos : Pos} : SoundS cx ε (.Break pos) .brk := by
  intro n cf A env F s ρ ad m cm H ρ' o h Q E hQ
  replace h := (zj3 cf).symm.trans h; cases h
  exact wpAny_Break (hQ .brk F s ad m cm (StepS.refl H.wd) H.frm .brk)
theorem zee {pos : Pos} : SoundS cx ε (.Continue pos) .cont := by
  intro n cf A env F s ρ ad m cm H ρ' o h Q E hQ
  replace h := (zhZ cf).symm.trans h; cases h
  exact wpAny_Continue (hQ .cont F s ad m cm (StepS.refl H.wd) H.frm .cont)
theorem zam {e : Expr} {x : X} {pos : Pos} (hx : Sound cx ε e x) : SoundS cx ε (.Return (some e) pos) (.ret x) := by
  intro n cf A env F s ρ ad m cm H ρ' o h Q E hQ
  replace h := (zj1 cf).symm.trans h
  obtain ⟨d, hd, e'⟩ := Option.map_eq_some_iff.mp h
  cases e'
  refine wpAny_Return_some (zeu H hx hd fun v F' s' st q => ?_)
  exact hQ _ F' s' ad m cm (.ofStep st) (H.step st).frm (.ret q)
theorem zah {c : Expr} {x : X} {bs es : List Stmt} {a b : S} {pos : Pos} (hx : Sound cx ε c x) (ha : SoundSs cx ε bs a) (hb : SoundSs cx ε es b) : SoundS cx ε (.If c bs es pos) (.ite x a b) := by
  intro n cf A env F s ρ ad m cm H ρ' o h Q E hQ
  replace h := (zj2 cf).symm.trans h
  split at h
  · rename_i e
    refine wpAny_If (hx.tr n cf A env F s ρ ad m cm H.here true e _ _ fun F' s' st => ?_)
    show wpAny _ _ _ _ _ _
    exact ha n cf A env F' s' ρ ad m cm (H.step st) ρ' o h _ _ (hQ.after (.ofStep st))
  · rename_i e
    refine wpAny_If (hx.tr n cf A env F s ρ ad m cm H.here false e _ _ fun F' s' st => ?_)
    show wpAny _ _ _ _ _ _
    exact hb n cf A env F' s' ρ ad m cm (H.step st) ρ' o h _ _ (hQ.after (.ofStep st))
  · cases h
theorem zft {c : Expr} {x : X} {msg : Option Expr} {pos : Pos} (hx : Sound cx ε c x) : SoundS cx ε (.Assert c msg pos) (.assert x) := by
  intro n cf A env F s ρ ad m cm H ρ' o h Q E hQ
  replace h := (zfe cf).symm.trans h
  split at h
  · rename_i e
    cases h
    refine wpAny_Assert_holds (hx.tr n cf A env F s ρ ad m cm H.here true e _ _ fun F' s' st => ?_)
    exact ⟨rfl, hQ .next F' s' ad m cm (.ofStep st) (H.step st).frm .next⟩
  · cases h
theorem zad {x : Str} {i : Nat} {e : Expr} {y : X} {pos' pos : Pos} (hx : ε.vars.lookup x = some i) (hf : ε.kinds.lookup x ≠ some .free) (h : Sound cx ε e y) (hs : ∀ env : Env, env.scope.kind = .function → env.scope.names = ε.kinds → swapsWith e (some (.Name x pos')) pos.line env = pure false) :
    SoundS cx ε (.Assign [.Name x pos'] e pos) (.assign i y) := by
  intro n cf A env F s ρ ad m cm H ρ' o he Q E hQ
  replace he := (zcE cf).symm.trans he
  obtain ⟨d, hd, e'⟩ := Option.map_eq_some_iff.mp he
  cases e'
  refine wpAny_Assign_Name (zeu H h hd fun v F' s' st q => ?_) (hs env H.frm.en.kind H.frm.en.names)
  exact zcl H st hx hf q fun s'' m' cm' x f => hQ .next F' s'' ad m' cm' x f .next
theorem zhE {i : Nat} {ρ : List Slot} (h : noApp i ρ = true) : ∀ j, slotAt ρ j ≠ .app i := by
  intro j e
  unfold noApp at h
  rw [List.all_eq_true] at h
  unfold slotAt at e
  rw [List.getD_eq_getElem?_getD] at e
  cases hj : ρ[j]? with
  | none => rw [hj] at e; cases e
  | some sl =>
    rw [hj] at e
    have := h sl (List.mem_of_getElem? hj)
    have e' : sl = .app i := e
    subst e'
    simp at this
theorem zbb {x : Str} {i : Nat} {e : Expr} {y : X} {pos' pos : Pos} (hx : ε.vars.lookup x = some i) (hf : ε.kinds.lookup x ≠ some .free) (h : Sound cx ε e y) (hs : ∀ env : Env, env.scope.kind = .function → env.scope.names = ε.kinds → swapsWith e (some (.Name x pos')) pos.line env = pure false) :
    SoundS cx ε (.Assign [.Name x pos'] e pos) (.assignO i y) := by
  intro n cf A env F s ρ ad m cm H ρ' o he Q E hQ
  replace he := (zcT cf).symm.trans he
  split at he
  · rename_i hna
    split at he
    · rename_i l e1
      cases he
      refine wpAny_Assign_Name (h.ev n cf A env F s ρ ad m cm H.here _ e1 _ _ fun v F' s' st q => ?_) (hs env H.frm.en.kind H.frm.en.names)
      cases q with
      | @own a vs k l lo nf nx g z q =>
        refine zea H st hx hf (sl := .own l) (ad' := fun j => if j = i then a else ad j) (fun j hj => if_neg hj) (.inr (zhE hna)) (fun h' hk => ?_) (fun l' _ => ?_) fun s'' m' cm' x f => hQ .next F' s'' _ m' cm' x f .next
        · have nm : ¬ Mut env ρ ad a := fun hm => by
            obtain ⟨o, e⟩ := H.frm.isSome hm
            rw [lo] at e; cases e
          have : SlotRep cx F' h' (fun j => if j = i then a else ad j) i (some (.ref ((fun j => if j = i then a else ad j) i))) (.own l) := by
            refine .own (vs := vs) (n := k) ?_ ?_ ?_ z (q.mono (fun _ h => h) fun b o f e => hk b o (.inl f) e) <;> simp only [if_true]
            · exact nf
            · exact nx
            · exact hk a _ (.inr nm) g
          simpa using this
        · simp only [if_true]
          exact ⟨lo, nf, nx, _, _, g⟩
    · rename_i d e1
      cases he
      refine wpAny_Assign_Name (h.ev n cf A env F s ρ ad m cm H.here _ e1 _ _ fun v F' s' st q => ?_) (hs env H.frm.en.kind H.frm.en.names)
      cases q with
      | val q => exact zcl H st hx hf q fun s'' m' cm' x f => hQ .next F' s'' ad m' cm' x f .next
    · cases he
  · cases he
end
set_option genInjectivity false in
structure Iter (cx : XCx) (A : Around) (F₀ : Addr → Prop) (s₀ : Shared) (items : List D) (I : Addr) (F : Addr → Prop) (s : Shared) (fp wr : List Addr) (P : Nat → Value → Prop) (St : Nat → Heap → Prop) : Prop where
  st : Step cx F₀ s₀ F s
  W : ∀ A' : Around, A'.handled = none → Walks cx.prog cx.w A' I fp wr items.length P St
  s0 : St 0 s.heap
  new : ∀ b ∈ wr, s₀.heap.get? b = none ∧ ¬ F b
  one : ∀ b ∈ wr, b = I
  deps : ∀ b ∈ fp, b ∈ wr ∨ F b
  item : ∀ i v, P i v → ∃ d, items[i]? = some d ∧ Rep cx.T F s.heap v d
  ty : ∀ i h, St i h → ∃ o T, h.get? I = some o ∧ o.cls = .type T ∧ ["enumerate", "zip", "dict_itemiterator", "dict_reverseitemiterator", "odict_iterator", "itertools.zip_longest", "itertools.pairwise"].contains T = false
  lim : items.length ≤ lim
noncomputable def SoundI (cx : XCx) (ε : Sc) (it : Expr) (x : X) : Prop :=
  ∀ n cf A env F s ρ ad m cm, Here cx ε n cf A env F s ρ ad m cm → ∀ items, evI cf x ρ = some items → ∀ (Q : Value → Shared → Prop) (E : Value → Shared → Prop),
    (∀ I F' s' fp wr P St, Iter cx A F s items I F' s' fp wr P St → Q (.ref I) s') →
    wpAny (model cx.prog cx.w) A (eval it env) (fun v s₁ => wpAny (model cx.prog cx.w) A (pyIter v) Q E s₁) E s
noncomputable def SoundA (cx : XCx) (ε : Sc) (target : Expr) (put : D → List Slot → Option (List Slot)) : Prop :=
  ∀ n cf A env F s ρ ad m cm, HereS cx ε n cf A env F s ρ ad m cm → ∀ v d ρ', Rep cx.T F s.heap v d → put d ρ = some ρ' → ∀ (Q : Unit → Shared → Prop) (E : Value → Shared → Prop),
    (∀ F' s' m' cm', StepS cx env F s ρ ad F' s' ρ' ad → Frm cx ε env F' s' ρ' ad m' cm' → Q () s') → wpAny (model cx.prog cx.w) A (assign target env v) Q E s
section
variable {cx : XCx} {ε : Sc} {n : Nat} {cf : Nat → List D → Option D} {A : Around} {env : Env} {F F₀ F' : Addr → Prop} {s s₀ s' : Shared} {ρ ρ' : List Slot} {ad ad' : Nat → Addr} {m cm m' cm' : Str → Option Value}
theorem Frm.kept (f : Frm cx ε env F s ρ ad m cm) {h' : Heap} (k : Nat) (hk : ∀ a o, F a ∨ Mut env ρ ad a → s.heap.get? a = some o → h'.get? a = some o) :
    Frm cx ε env F { s with heap := h', toks := k } ρ ad m cm := by
  have hl : Mut env ρ ad env.locals := .inl rfl
  have slots : ∀ j ov, SlotRep cx F s.heap ad j ov (slotAt ρ j) → SlotRep cx F h' ad j ov (slotAt ρ j) := by
    intro j ov q
    have hm : ∀ l, slotAt ρ j = .own l → Mut env ρ ad (ad j) := fun l e => .inr (.inr ⟨j, l, e, rfl⟩)
    generalize slotAt ρ j = x at q hm
    cases q with
    | unset => exact .unset
    | val q => exact .val (q.mono (fun _ h => h) fun a o f e => hk a o (.inl f) e)
    | own nf nx g z q => exact .own nf nx (hk _ _ (.inr (hm _ rfl)) g) z (q.mono (fun _ h => h) fun a o f e => hk a o (.inl f) e)
    | app fb g e => exact .app fb (hk _ _ (.inl fb) g) e
  refine ⟨⟨f.en.kind, f.en.names, f.en.glob, f.en.blt, f.en.code, f.en.lx, f.en.cxx, f.en.ns.at' fun o e => hk _ o (.inr hl) e, fun n c hc => let ⟨o, g, d⟩ := f.en.cells n c hc; ⟨o, hk _ o (.inr (.inr (.inl ⟨n, hc⟩))) g, d⟩,
    fun y i hy => (f.en.vars y i hy).imp (fun ⟨k, q⟩ => ⟨k, slots i _ q⟩) fun ⟨k, c, q⟩ => ⟨k, c, slots i _ q⟩⟩, f.lf, f.cf, f.cinj, f.oinj, fun i l hi => ?_⟩
  obtain ⟨a1, a2, ⟨vs, n, g⟩, a4, a5⟩ := f.own i l hi
  exact ⟨a1, a2, ⟨vs, n, hk _ _ (.inr (.inr (.inr ⟨i, l, hi, rfl⟩))) g⟩, a4, a5⟩
theorem StepS.kept (ok : CxOk cx) (w₀ : Wd cx F₀ s₀) (x : StepS cx env F₀ s₀ ρ ad F s ρ' ad') (f : Frm cx ε env F s ρ' ad' m cm) {wr : List Addr} (hw : ∀ b ∈ wr, s₀.heap.get? b = none ∧ ¬ F b ∧ ¬ Mut env ρ' ad' b) {h' : Heap} (k : Nat)
    (hk : ∀ a o, a ∉ wr → s.heap.get? a = some o → h'.get? a = some o) : StepS cx env F₀ s₀ ρ ad F { s with heap := h', toks := k } ρ' ad' ∧ Frm cx ε env F { s with heap := h', toks := k } ρ' ad' m cm := by
  have nf : ∀ a, F a → a ∉ wr := fun a h hm => (hw a hm).2.1 h
  have nm : ∀ a, Mut env ρ' ad' a → a ∉ wr := fun a h hm => (hw a hm).2.2 h
  have nx : ∀ a, cx.X a → a ∉ wr := fun a h hm => by
    obtain ⟨o, e⟩ := w₀.xex a h
    rw [(hw a hm).1] at e; cases e
  have w := x.wd
  refine ⟨⟨x.sub, x.new, fun a o e ax am => ?_, x.os, ⟨fun a o e ax => hk a o (nf a (w.f0 a o e ax)) (w.base a o e ax), ok.xi _ _ _ _ w.xi (fun _ h => h) (fun a o h e => hk a o (h.elim (nf a) (nx a)) e), w.gens, w.f0, fun a h => let ⟨o, e⟩ := w.lt a h; ⟨o, hk a o (nf a h) e⟩, w.nx, fun a h => let ⟨o, e⟩ := w.xex a h; ⟨o, hk a o (nx a h) e⟩⟩, x.mu⟩, f.kept k fun a o h e => hk a o (h.elim (nf a) (nm a)) e⟩
  refine hk a o (fun hm => ?_) (x.keep a o e ax am)
  rw [(hw a hm).1] at e; cases e
end
section
variable {cx : XCx} {ε : Sc}
theorem zgV {x : Str} {i : Nat} {p : Pos} (hx : ε.vars.lookup x = some i) (hf : ε.kinds.lookup x ≠ some .free) : SoundA cx ε (.Name x p) (put1 i) := by
  intro n cf A env F s ρ ad m cm H v d ρ' hv hp Q E hQ
  cases hp
  exact wpAny_assign_Name (zcl H (Step.refl H.wd) hx hf hv fun s' m' cm' x f => hQ F s' m' cm' x f)
inductive WhI (cx : XCx) (ε : Sc) (env : Env) (F : Addr → Prop) (s : Shared) (ρ : List Slot) (ad : Nat → Addr) (go : Nat → List Slot → Option (List Slot × Out)) (res : Option (List Slot × Out)) (k : Nat) (s' : Shared) : Prop
  | mk (F' : Addr → Prop) (ρ₁ : List Slot) (ad₁ : Nat → Addr) (m₁ cm₁ : Str → Option Value) (x1 : StepS cx env F s ρ ad F' s' ρ₁ ad₁) (f1 : Frm cx ε env F' s' ρ₁ ad₁ m₁ cm₁) (hg : go k ρ₁ = res)
theorem zbw {c : Expr} {x : X} {bs : List Stmt} {b : S} {pos : Pos} (hx : Sound cx ε c x) (hb : SoundSs cx ε bs b) : SoundS cx ε (.While c bs [] pos) (.while x b) := by
  intro n cf A env F s ρ ad m cm H ρ' o h Q E hQ
  replace h := (zgA cf).symm.trans h
  refine wpAny_While ?_
  refine codeAny_whileLoop (WhI cx ε env F s ρ ad (whileGo (evT cf x) (ex cf b)) (some (ρ', o))) (fun k s' hI => ?_) Mine.wf
    ⟨F, ρ, ad, m, cm, StepS.refl H.wd, H.frm, h⟩
  obtain ⟨F', ρ₁, ad₁, m₁, cm₁, x1, f1, hg⟩ := hI
  have H1 := H.stepS x1 f1
  cases k with
  | zero => cases hg
  | succ k =>
    unfold whileGo at hg
    split at hg
    · cases hg
    · rename_i e
      cases hg
      refine hx.tr n cf A env F' s' _ ad₁ m₁ cm₁ H1.here false e _ _ fun F2 s2 st => ?_
      show wpAny _ _ _ _ _ _
      exact wpAny_execs_nil (hQ .next F2 s2 ad₁ m₁ cm₁ (x1.trans (.ofStep st)) (H1.step st).frm .next)
    · rename_i e
      refine hx.tr n cf A env F' s' ρ₁ ad₁ m₁ cm₁ H1.here true e _ _ fun F2 s2 st => ?_
      show wpAny _ _ _ _ _ _
      have H2 := H1.step st
      split at hg
      · cases hg
      · rename_i ρ₂ e2
        refine hb n cf A env F2 s2 ρ₁ ad₁ m₁ cm₁ H2 ρ₂ .next e2 _ _ fun f F3 s3 ad3 m3 cm3 x3 f3 q => ?_
        cases q
        exact ⟨k, Nat.lt_succ_self k, F3, ρ₂, ad3, m3, cm3, (x1.trans (.ofStep st)).trans x3, f3, hg⟩
      · rename_i ρ₂ e2
        refine hb n cf A env F2 s2 ρ₁ ad₁ m₁ cm₁ H2 ρ₂ .cont e2 _ _ fun f F3 s3 ad3 m3 cm3 x3 f3 q => ?_
        cases q
        exact ⟨k, Nat.lt_succ_self k, F3, ρ₂, ad3, m3, cm3, (x1.trans (.ofStep st)).trans x3, f3, hg⟩
      · rename_i ρ₂ e2
        cases hg
        refine hb n cf A env F2 s2 ρ₁ ad₁ m₁ cm₁ H2 _ .brk e2 _ _ fun f F3 s3 ad3 m3 cm3 x3 f3 q => ?_
        cases q
        exact hQ .next F3 s3 ad3 m3 cm3 ((x1.trans (.ofStep st)).trans x3) f3 .next
      · rename_i ρ₂ d e2
        cases hg
        refine hb n cf A env F2 s2 ρ₁ ad₁ m₁ cm₁ H2 _ (.ret d) e2 _ _ fun f F3 s3 ad3 m3 cm3 x3 f3 q => ?_
        cases q with
        | ret r => exact hQ _ F3 s3 ad3 m3 cm3 ((x1.trans (.ofStep st)).trans x3) f3 (.ret r)
theorem zhO {A : Around} {s : Shared} {E : Value → Shared → Prop} {target : Expr} {I : Addr} {v : Value} {Q : Unit → Shared → Prop} {o : Obj} {T : String} (hg : s.heap.get? I = some o) (hc : o.cls = .type T)
    (hT : ["enumerate", "zip", "dict_itemiterator", "dict_reverseitemiterator", "odict_iterator", "itertools.zip_longest", "itertools.pairwise"].contains T = false) (h : Q () s) :
    wpAny (model cx.prog cx.w) A (letOwnedTupleGo target (.ref I) v) Q E s := by
  have key : ∀ es k p, wpAny (model cx.prog cx.w) A (letOwnedTupleGo (.Tuple es k p) (.ref I) v) Q E s := by
    intro es k p
    cases v with
    | ref a =>
      show wpAny _ _ (load I >>= _) Q E s
      refine wpAny_bind (wpAny_load hg ?_)
      rw [hc]
      generalize o.data = dd
      cases dd with
      | fields vs =>
        show wpAny _ _ (if (_ && _) = true then _ else _) Q E s
        rw [hT]
        exact wpAny_pure h
      | _ => exact wpAny_pure h
    | _ => exact wpAny_pure h
  cases target with
  | Tuple es k p => exact key es k p
  | List es p => exact key [] 0 p
  | _ => exact wpAny_pure h
set_option genInjectivity false in
structure IterG (cx : XCx) (A : Around) (target : Expr) (F₀ : Addr → Prop) (s₀ : Shared) (items : List D) (I : Addr) (F : Addr → Prop) (s : Shared) (wr : List Addr) (Inv : Nat → Heap → Prop) (TR : (Addr → Prop) → Heap → Value → D → Prop) : Prop where
  st : Step cx F₀ s₀ F s
  i0 : Inv 0 s.heap
  new : ∀ b ∈ wr, s₀.heap.get? b = none ∧ ¬ F b
  live : ∀ j h, Inv j h → ∀ b ∈ wr, ∃ o, h.get? b = some o
  frame : ∀ j h h', Inv j h → (∀ b, b ∈ wr ∨ F b → ∀ o, h.get? b = some o → h'.get? b = some o) → Inv j h'
  next : ∀ j (s' : Shared) (F' : Addr → Prop) (K : Value → Shared → Prop) (N : Shared → Prop) (E : Value → Shared → Prop), j < items.length → Inv j s'.heap → (∀ v d, Rep cx.T F s.heap v d → Rep cx.T F' s'.heap v d) → (∀ b ∈ wr, ¬ F' b) →
    (∀ v h' tk d, items[j]? = some d → TR F' h' v d → Inv (j + 1) h' → (∀ b o, b ∉ wr → s'.heap.get? b = some o → h'.get? b = some o) → K v { s' with heap := h', toks := tk }) →
    wpAny (model cx.prog cx.w) A (pyNext (.ref I)) (fun r s₁ => match r with | none => N s₁ | some v => wpAny (model cx.prog cx.w) A (letOwnedTupleGo target (.ref I) v) (fun _ s₂ => K v s₂) E s₁) E s'
  done : ∀ (s' : Shared) (K : Value → Shared → Prop) (N : Shared → Prop) (E : Value → Shared → Prop), Inv items.length s'.heap → (∀ h' tk, (∀ b o, b ∉ wr → s'.heap.get? b = some o → h'.get? b = some o) → N { s' with heap := h', toks := tk }) →
    wpAny (model cx.prog cx.w) A (pyNext (.ref I)) (fun r s₁ => match r with | none => N s₁ | some v => wpAny (model cx.prog cx.w) A (letOwnedTupleGo target (.ref I) v) (fun _ s₂ => K v s₂) E s₁) E s'
theorem Iter.gen {A : Around} (hh : A.handled = none) {target : Expr} {F₀ F : Addr → Prop} {s₀ s : Shared} {items : List D} {I : Addr} {fp wr : List Addr} {P : Nat → Value → Prop} {St : Nat → Heap → Prop} (J : Iter cx A F₀ s₀ items I F s fp wr P St) :
    IterG cx A target F₀ s₀ items I F s wr St (Rep cx.T) := by
  refine ⟨J.st, J.s0, J.new, fun j h hs b hb => ?_, fun j h h' hs hk => (J.W A hh).frame _ _ _ hs fun b hb => hk b (J.deps b hb), fun j s' F' K N E hlt hst hrep hnw hQ => ?_, fun s' K N E hst hQ => ?_⟩
  · obtain ⟨o, _, g, _⟩ := J.ty _ _ hs
    exact J.one b hb ▸ ⟨o, g⟩
  · refine (J.W A hh).item j s' _ _ hlt hst fun v h' tk hP hst' hk => ?_
    obtain ⟨d, hd, hr⟩ := J.item j v hP
    obtain ⟨ob, T, g1, g2, g3⟩ := J.ty _ _ hst'
    exact zhO (s := { s' with heap := h', toks := tk }) g1 g2 g3 (hQ v h' tk d hd ((hrep v d hr).mono (fun _ h => h) fun a o f e => hk a o (fun hm => hnw a hm f) e) hst' hk)
  · exact (J.W A hh).done s' _ _ hst fun h' tk hk => hQ h' tk hk
inductive ForI (cx : XCx) (ε : Sc) (env : Env) (F : Addr → Prop) (s : Shared) (ρ : List Slot) (ad : Nat → Addr) (F0 : Addr → Prop) (h0 : Heap) (wr : List Addr) (St : Nat → Heap → Prop) (items : List D) (go : List D → List Slot → Option (List Slot × Out)) (res : Option (List Slot × Out)) (k : Nat) (s' : Shared) : Prop
  | mk (j : Nat) (F' : Addr → Prop) (ρ₁ : List Slot) (ad₁ : Nat → Addr) (m₁ cm₁ : Str → Option Value) (hj : j ≤ items.length) (hk : k = items.length - j) (x1 : StepS cx env F s ρ ad F' s' ρ₁ ad₁) (hrep : ∀ v d, Rep cx.T F0 h0 v d → Rep cx.T F' s'.heap v d) (hF : ∀ a, F0 a → F' a) (f1 : Frm cx ε env F' s' ρ₁ ad₁ m₁ cm₁) (hst : St j s'.heap)
    (hwr : ∀ b ∈ wr, ¬ F' b ∧ ¬ Mut env ρ₁ ad₁ b) (hg : go (items.drop j) ρ₁ = res)
set_option genInjectivity false in
structure ForL (cx : XCx) (env : Env) (F0 : Addr → Prop) (h0 : Heap) (wr : List Addr) (St : Nat → Heap → Prop) (j : Nat) (F4 : Addr → Prop) (h4 : Heap) (ρ4 : List Slot) (ad4 : Nat → Addr) : Prop where
  p1 : ∀ v d, Rep cx.T F0 h0 v d → Rep cx.T F4 h4 v d
  p2 : ∀ a, F0 a → F4 a
  p3 : St j h4
  p4 : ∀ b ∈ wr, ¬ F4 b ∧ ¬ Mut env ρ4 ad4 b
theorem zjW {target : Expr} {put : D → List Slot → Option (List Slot)} {it : Expr} {bs : List Stmt} {b : S} {pos : Pos} {TR : (Addr → Prop) → Heap → Value → D → Prop} (hb : SoundSs cx ε bs b)
    (hs : ∀ env x, foldedSetIterable it env x = pure x) {n cf A env F s ρ ad m cm} (H : HereS cx ε n cf A env F s ρ ad m cm) {items : List D}
    (ht : ∀ F s ρ m cm ad, HereS cx ε n cf A env F s ρ ad m cm → ∀ v d ρ', TR F s.heap v d → put d ρ = some ρ' → ∀ (Q : Unit → Shared → Prop) (E : Value → Shared → Prop), (∀ F' s' m' cm', StepS cx env F s ρ ad F' s' ρ' ad → Frm cx ε env F' s' ρ' ad m' cm' → Q () s') → wpAny (model cx.prog cx.w) A (assign target env v) Q E s)
    (hi : ∀ (Q : Value → Shared → Prop) (E : Value → Shared → Prop), (∀ I F' s' wr St, IterG cx A target F s items I F' s' wr St TR → Q (.ref I) s') → wpAny (model cx.prog cx.w) A (eval it env) (fun v s₁ => wpAny (model cx.prog cx.w) A (pyIter v) Q E s₁) E s)
    {ρ' : List Slot} {o : Out}
    (h : forGo put (ex cf b) items ρ = some (ρ', o)) {Q : Flow → Shared → Prop} {E : Value → Shared → Prop} (hQ : PostS cx ε env F s ρ ad ρ' o Q) : wpAny (model cx.prog cx.w) A (exec (.For target it bs [] pos) env) Q E s := by
  refine wpAny_For (hi _ _ fun I F0 s0 wr St J => ?_) (hs env)
  have hx0 : ∀ b ∈ wr, ¬ cx.X b := fun b hb h => by
    obtain ⟨o, e⟩ := H.wd.xex b h
    rw [(J.new b hb).1] at e; cases e
  refine codeAny_forLoop_any (ForI cx ε env F s ρ ad F0 s0.heap wr St items (forGo put (ex cf b)) (some (ρ', o))) (fun k s' hI => ?_) items.length
    ⟨0, F0, ρ, ad, m, cm, Nat.zero_le _, rfl, .ofStep J.st, fun _ _ h => h, fun _ h => h, (H.step J.st).frm, J.i0, fun b hb => ⟨(J.new b hb).2, fun hm => ?_⟩, h⟩
  rotate_left
  · obtain ⟨o, e⟩ := H.frm.isSome hm
    rw [(J.new b hb).1] at e; cases e
  obtain ⟨j, F', ρ₁, ad₁, m₁, cm₁, hj, rfl, x1, hrep, hF, f1, hst, hwr, hg⟩ := hI
  have hwr' : ∀ b ∈ wr, s.heap.get? b = none ∧ ¬ F' b ∧ ¬ Mut env ρ₁ ad₁ b := fun b hb => ⟨(J.new b hb).1, (hwr b hb).1, (hwr b hb).2⟩
  rcases Nat.lt_or_ge j items.length with hlt | hge
  · refine J.next j s' F' _ _ _ hlt hst hrep (fun b hb => (hwr b hb).1) fun v h' tk d hd htr hst' hk => ?_
    obtain ⟨x2, f2⟩ := x1.kept H.ok H.wd f1 hwr' tk hk
    have hdrop : items.drop j = d :: items.drop (j + 1) := by
      have h1 : items[j]? = some items[j] := List.getElem?_eq_getElem hlt
      rw [h1] at hd
      cases hd
      exact List.drop_eq_getElem_cons hlt
    rw [hdrop] at hg
    have keepF : ∀ a o, F' a → s'.heap.get? a = some o → h'.get? a = some o := fun a o f e => hk a o (fun hm => (hwr a hm).1 f) e
    have hr2 : ∀ v d, Rep cx.T F0 s0.heap v d → Rep cx.T F' h' v d := fun v d hr => (hrep v d hr).mono (fun _ h => h) keepF
    cases e2 : put d ρ₁ with
    | none => unfold forGo at hg; rw [e2] at hg; cases hg
    | some ρ₂ =>
    have H2 := H.stepS x2 f2
    refine ht F' _ ρ₁ m₁ cm₁ ad₁ H2 v d ρ₂ htr e2 _ _ fun F3 s3 m3 cm3 x3 f3 => ?_
    have H3 := H2.stepS x3 f3
    have later : ∀ {F4 s4 ρ4 ad4 m4 cm4}, StepS cx env F' { s' with heap := h', toks := tk } ρ₁ ad₁ F4 s4 ρ4 ad4 → Frm cx ε env F4 s4 ρ4 ad4 m4 cm4 →
        ForL cx env F0 s0.heap wr St (j + 1) F4 s4.heap ρ4 ad4 := by
      intro F4 s4 ρ4 ad4 m4 cm4 y f4
      refine ⟨fun v d q => y.rep H2 (hr2 v d q), fun a h => y.sub a (hF a h), J.frame _ _ _ hst' fun b hb ob' e => ?_, fun b hb => ?_⟩
      · rcases hb with hb | hb
        · exact y.keep b ob' e (hx0 b hb) (hwr b hb).2
        · exact y.keep b ob' e (H2.wd.nx b (hF b hb)) fun hm => (f2.notF hm).1 (hF b hb)
      · obtain ⟨ob, g1⟩ := J.live _ _ hst' b hb
        refine ⟨fun h => ?_, fun h => ?_⟩
        · rcases y.new b h with q | q | q
          · exact (hwr b hb).1 q
          · rw [show ({ s' with heap := h', toks := tk } : Shared).heap.get? b = some ob from g1] at q; cases q
          · exact (hwr b hb).2 q
        · rcases y.mu b h with q | q
          · exact (hwr b hb).2 q
          · rw [show ({ s' with heap := h', toks := tk } : Shared).heap.get? b = some ob from g1] at q; cases q
    cases e3 : ex cf b ρ₂ with
    | none => unfold forGo at hg; rw [e2] at hg; simp only [e3] at hg; cases hg
    | some pr =>
    obtain ⟨ρ₃, o3⟩ := pr
    replace hg : (match o3 with
      | .next => forGo put (ex cf b) (items.drop (j + 1)) ρ₃
      | .cont => forGo put (ex cf b) (items.drop (j + 1)) ρ₃
      | .brk => some (ρ₃, .next)
      | .ret d => some (ρ₃, .ret d)) = some (ρ', o) := by
      unfold forGo at hg
      rw [e2] at hg
      simp only [e3] at hg
      cases o3 <;> exact hg
    refine hb n cf A env F3 s3 ρ₂ ad₁ m3 cm3 H3 _ o3 e3 _ _ fun f F4 s4 ad4 m4 cm4 x4 f4 q => ?_
    have x24 := x2.trans (x3.trans x4)
    obtain ⟨p1, p2, p3, p4⟩ := later (x3.trans x4) f4
    have again : forGo put (ex cf b) (items.drop (j + 1)) ρ₃ = some (ρ', o) → ∃ m, m < items.length - j ∧ ForI cx ε env F s ρ ad F0 s0.heap wr St items (forGo put (ex cf b)) (some (ρ', o)) m s4 := fun hg =>
      ⟨items.length - (j + 1), Nat.sub_lt_sub_left hlt (Nat.lt_succ_self j), j + 1, F4, ρ₃, ad4, m4, cm4, hlt, rfl, x24, p1, p2, f4, p3, p4, hg⟩
    cases q with
    | next => exact again hg
    | cont => exact again hg
    | brk => cases hg; exact hQ .next F4 s4 ad4 m4 cm4 x24 f4 .next
    | ret r => cases hg; exact hQ _ F4 s4 ad4 m4 cm4 x24 f4 (.ret r)
  · have ej : j = items.length := Nat.le_antisymm (by assumption) (by assumption)
    subst ej
    rw [List.drop_length] at hg
    cases hg
    refine J.done s' _ _ _ hst fun h' tk hk => ?_
    obtain ⟨x2, f2⟩ := x1.kept H.ok H.wd f1 hwr' tk hk
    exact wpAny_execs_nil (hQ .next F' _ ad₁ m₁ cm₁ x2 f2 .next)
theorem for_any {target : Expr} {put : D → List Slot → Option (List Slot)} {it : Expr} {x : X} {bs : List Stmt} {b : S} {pos : Pos} (ht : SoundA cx ε target put) (hi : SoundI cx ε it x) (hb : SoundSs cx ε bs b)
    (hs : ∀ env x, foldedSetIterable it env x = pure x) {n cf A env F s ρ ad m cm} (H : HereS cx ε n cf A env F s ρ ad m cm) {items : List D} (hit : evI cf x ρ = some items) {ρ' : List Slot} {o : Out}
    (h : forGo put (ex cf b) items ρ = some (ρ', o)) {Q : Flow → Shared → Prop} {E : Value → Shared → Prop} (hQ : PostS cx ε env F s ρ ad ρ' o Q) : wpAny (model cx.prog cx.w) A (exec (.For target it bs [] pos) env) Q E s :=
  zjW (TR := Rep cx.T) hb hs H (fun F s ρ m cm ad => ht n cf A env F s ρ ad m cm) (fun Q E k => hi n cf A env F s ρ ad m cm H.here items hit Q E fun I F' s' fp wr P St J => k I F' s' wr St (J.gen H.bud.hd)) h hQ
theorem za2 {x : Str} {i : Nat} {p : Pos} {it : Expr} {y : X} {bs : List Stmt} {b : S} {pos : Pos} (hx : ε.vars.lookup x = some i) (hf : ε.kinds.lookup x ≠ some .free) (hi : SoundI cx ε it y) (hb : SoundSs cx ε bs b)
    (hs : ∀ env x, foldedSetIterable it env x = pure x) : SoundS cx ε (.For (.Name x p) it bs [] pos) (.forE i y b) := by
  intro n cf A env F s ρ ad m cm H ρ' o h Q E hQ
  replace h := (zhY cf).symm.trans h
  split at h
  · rename_i items e
    exact for_any (zgV hx hf) hi hb hs H e h hQ
  · cases h
end
section
variable {cx : XCx} {ε : Sc}
theorem evI_seq {cf : Nat → List D → Option D} {x : X} {ρ : List Slot} {items : List D} (h : evI cf (.seqI x) ρ = some items) : ∃ r d, ev cf x ρ = some [r] ∧ r.fz = some d ∧ itemsOf d = some items := by
  unfold evI at h
  split at h
  · rename_i l e
    cases h
    replace e := (zbh _).symm.trans e
    split at e
    · rename_i r e1
      split at e
      · rename_i d e2
        obtain ⟨l', e3, e4⟩ := Option.map_eq_some_iff.mp e
        cases e4
        exact ⟨r, d, e1, e2, e3⟩
      · cases e
    · cases e
  · cases h
theorem zdb {A : Around} {F₀ F : Addr → Prop} {s₀ s : Shared} {items : List D} {P : Nat → Value → Prop} {St : Nat → Heap → Prop} {fp : List Addr} {o : Obj} (ok : CxOk cx) (w₀ : Wd cx F₀ s₀) (st : Step cx F₀ s₀ F s)
    (W : ∀ A' : Around, A'.handled = none → Walks cx.prog cx.w A' s.heap.objs.size fp [s.heap.objs.size] items.length P St) (s0 : St 0 (s.heap.push o)) (deps : ∀ b ∈ fp, b = s.heap.objs.size ∨ F b)
    (item : ∀ i v, P i v → ∃ d, items[i]? = some d ∧ Rep cx.T F s.heap v d)
    (ty : ∀ i h, St i h → ∃ o T, h.get? s.heap.objs.size = some o ∧ o.cls = .type T ∧ ["enumerate", "zip", "dict_itemiterator", "dict_reverseitemiterator", "odict_iterator", "itertools.zip_longest", "itertools.pairwise"].contains T = false)
    (hl : items.length ≤ lim) (k : Nat) : Iter cx A F₀ s₀ items s.heap.objs.size F { s with heap := s.heap.push o, toks := k } fp [s.heap.objs.size] P St := by
  have stp := Step.push ok st.wd o k
  have fr := zaz s.heap
  refine ⟨st.trans stp, W, s0, fun b hb => ?_, fun b hb => by simpa using hb, fun b hb => (deps b hb).imp (fun e => by simp [e]) id, fun i v h => ?_, ty, hl⟩
  · have e : b = s.heap.objs.size := by simpa using hb
    subst e
    exact ⟨st.fresh (st.wd.newNotX fr) fr, st.wd.newNotF fr⟩
  · obtain ⟨d, e, r⟩ := item i v h
    exact ⟨d, e, stp.rep st.wd r⟩
theorem zk8 {A : Around} (hh : A.handled = none) {F₀ F : Addr → Prop} {s₀ s : Shared} (ok : CxOk cx) (w₀ : Wd cx F₀ s₀) (st : Step cx F₀ s₀ F s) {v : Value} {d : D} (q : Rep cx.T F s.heap v d) {items : List D} (hi : itemsOf d = some items)
    {Q : Value → Shared → Prop} {E : Value → Shared → Prop} (hQ : ∀ I F' s' fp wr P St, Iter cx A F₀ s₀ items I F' s' fp wr P St → Q (.ref I) s') : wpAny (model cx.prog cx.w) A (pyIter v) Q E s := by
  cases q with
  | @list a vs n l f g z q =>
    cases hi
    have hne : a ≠ s.heap.objs.size := Nat.ne_of_lt (Heap.lt_size g)
    have el : items.length = vs.toArray.size := by rw [List.size_toArray]; exact q.length.symm
    refine wpAny_pyIter_list (zaI g) (hQ _ F _ [s.heap.objs.size, a] [s.heap.objs.size] (fun i v => vs.toArray[i]? = some v) (fun i h => h.IsListIter s.heap.objs.size a i ∧ h.IsList a vs.toArray) ?_)
    refine zdb (P := fun i v => vs.toArray[i]? = some v) ok w₀ st (fun A' hh => el ▸ Walks.list hh _ a hne vs.toArray) ⟨⟨_, Heap.get?_push_size _ rfl, rfl, rfl⟩, (zaI g).push _⟩ (fun b hb => ?_) (fun i v h => ?_) (fun i h hs => ?_) (by rw [← q.length]; exact z) s.toks
    · simp only [List.mem_cons, List.not_mem_nil, or_false] at hb
      rcases hb with rfl | rfl
      · exact .inl rfl
      · exact .inr f
    · rw [List.getElem?_toArray] at h
      exact q.getV h
    · obtain ⟨⟨o, g, c, _⟩, _⟩ := hs
      exact ⟨o, _, g, c, by decide⟩
  | @tup a vs n l f g z q =>
    cases hi
    have hne : a ≠ s.heap.objs.size := Nat.ne_of_lt (Heap.lt_size g)
    have el : items.length = vs.toArray.size := by rw [List.size_toArray]; exact q.length.symm
    have ht : s.heap.IsTuple a vs.toArray := ⟨_, g, rfl, n, rfl⟩
    refine wpAny_pyIter_tuple ht (hQ _ F _ [s.heap.objs.size, a] [s.heap.objs.size] (fun i v => vs.toArray[i]? = some v) (fun i h => h.IsTupleIter s.heap.objs.size a i ∧ h.IsTuple a vs.toArray) ?_)
    refine zdb (P := fun i v => vs.toArray[i]? = some v) ok w₀ st (fun A' hh => el ▸ Walks.tuple hh _ a hne vs.toArray) ⟨⟨_, Heap.get?_push_size _ rfl, rfl, rfl⟩, ht.push _⟩ (fun b hb => ?_) (fun i v h => ?_) (fun i h hs => ?_) (by rw [← q.length]; exact z) s.toks
    · simp only [List.mem_cons, List.not_mem_nil, or_false] at hb
      rcases hb with rfl | rfl
      · exact .inl rfl
      · exact .inr f
    · rw [List.getElem?_toArray] at h
      exact q.getV h
    · obtain ⟨⟨o, g, c, _⟩, _⟩ := hs
      exact ⟨o, _, g, c, by decide⟩
  | @str l t p z =>
    cases hi
    have el : (l.map fun c => D.str [c]).length = (PySem.Str.mk l.toArray).cps.size := by simp
    have item : ∀ i v, SignAt ⟨l.toArray⟩ i v → ∃ d, (l.map fun c => D.str [c])[i]? = some d ∧ Rep cx.T F s.heap v d := by
      rintro i v ⟨c, u, e, rfl⟩
      rw [show (PySem.Str.mk l.toArray).cps = l.toArray from rfl, List.getElem?_toArray] at e
      refine ⟨.str [c], by rw [List.getElem?_map, e]; rfl, .str (l := [c]) u (fun c' h => ?_) (by simp [lim])⟩
      simp only [List.mem_cons, List.not_mem_nil, or_false] at h
      subst h
      exact p _ (List.mem_of_getElem? e)
    have hz : (l.map fun c => D.str [c]).length ≤ lim := by simpa using z
    have deps : ∀ b ∈ [s.heap.objs.size], b = s.heap.objs.size ∨ F b := fun b hb => .inl (by simpa using hb)
    cases ha : (PySem.Str.mk l.toArray).cps.all (· < 128)
    · refine wpAny_pyIter_wide ha (hQ _ F _ _ _ _ _ (zdb ok w₀ st (fun A' hh => el ▸ Walks.strWide hh _ ⟨l.toArray⟩ t) ⟨_, Heap.get?_push_size _ rfl, rfl, rfl⟩ deps item (fun i h hs => ?_) hz s.toks))
      obtain ⟨o, g, c, _⟩ := hs
      exact ⟨o, _, g, c, by decide⟩
    · refine wpAny_pyIter_ascii ha (hQ _ F _ _ _ _ _ (zdb ok w₀ st (fun A' hh => el ▸ Walks.strAscii hh _ ⟨l.toArray⟩ t) ⟨_, Heap.get?_push_size _ rfl, rfl, rfl⟩ deps item (fun i h hs => ?_) hz s.toks))
      obtain ⟨o, g, c, _⟩ := hs
      exact ⟨o, _, g, c, by decide⟩
  | _ => cases hi
theorem zaD {e : Expr} {x : X} (h : Sound cx ε e x) : SoundI cx ε e (.seqI x) := by
  intro n cf A env F s ρ ad m cm H items hi Q E hQ
  obtain ⟨r, d, e1, e2, e3⟩ := evI_seq hi
  refine h.ev n cf A env F s ρ ad m cm H r e1 _ _ fun v F' s' st q => ?_
  obtain ⟨F'', st', _, q'⟩ := st.fz H.ok H.wd q e2
  exact zk8 H.bud.hd H.ok H.wd st' q' e3 hQ
theorem ziv {A : Around} (hh : A.handled = none) {F₀ F : Addr → Prop} {s₀ s : Shared} (ok : CxOk cx) (w₀ : Wd cx F₀ s₀) (st : Step cx F₀ s₀ F s) {r : Addr} {a b c : Int} {t u v : Tok} (hr : IsRange s.heap r a b c t u v) (hs : Builtin.Range.small a b c = true)
    {k : Nat} (hk : Builtin.Range.rangeSize a b c = (k : Int)) (hl : k ≤ lim)
    {Q : Value → Shared → Prop} {E : Value → Shared → Prop} (hQ : ∀ I F' s' fp wr P St, Iter cx A F₀ s₀ ((upTo k a c).map .int) I F' s' fp wr P St → Q (.ref I) s') : wpAny (model cx.prog cx.w) A (pyIter (.ref r)) Q E s := by
  have el : ((upTo k a c).map D.int).length = k := by simp [upTo]
  let P : Nat → Value → Prop := fun i v => i < k ∧ ∃ t, v = .int (a + i * c) t
  have W : ∀ A' : Around, A'.handled = none → Walks cx.prog cx.w A' s.heap.objs.size [s.heap.objs.size] [s.heap.objs.size] k P (fun i h => IsRangeIter h s.heap.objs.size (a + (i : Nat) * c) ((k : Int) - (i : Nat)) c) := fun A' hh => (Walks.range hh _ a c k).bound
  refine wpAny_pyIter_range hr hs (hQ _ F _ _ _ _ _ (zdb (P := P) ok w₀ st (by rw [el]; exact W) ?_ (fun b hb => .inl (by simpa using hb)) ?_ (fun i h hs => ⟨_, _, hs, rfl, by decide⟩) (by rw [el]; exact hl) s.toks))
  · have := Heap.get?_push_size s.heap (o := { cls := .type "range_iterator", data := .fields #[rawInt a, rawInt (Builtin.Range.rangeSize a b c), rawInt c] }) rfl
    show IsRangeIter _ _ _ _ _
    rw [hk] at this
    simpa [IsRangeIter, hk] using this
  · rintro i v ⟨hi, t, rfl⟩
    refine ⟨.int (a + i * c), ?_, .int _ t⟩
    rw [List.getElem?_map]
    unfold upTo
    rw [List.getElem?_map, List.getElem?_range hi]
    simp [Int.mul_comm]
theorem zc2 {i : Int} (h : small i = true) : -1000000000 ≤ i ∧ i ≤ 1000000000 := by
  unfold small at h
  simpa using h
theorem zd5 {z : Int} (h : z ≤ 1000000) : z.toNat ≤ lim := by unfold lim; omega
theorem zhz (a b : Int) : (if a < b then b - a else 0) = ((b - a).toNat : Int) := by split <;> omega
theorem lo62 {i : Int} (h : -1000000000 ≤ i) : -(2 ^ 62) ≤ i := Int.le_trans (by decide) h
theorem hi62 {i : Int} (h : i ≤ 1000000000) : i < 2 ^ 62 := Int.lt_of_le_of_lt h (by decide)
inductive RangeI : List D → List D → Prop
  | one {i : Int} : -1000000000 ≤ i → i ≤ 1000000000 → i ≤ 1000000 → RangeI [.int i] (rangeL 0 i)
  | two {a i : Int} : -1000000000 ≤ a → a ≤ 1000000000 → -1000000000 ≤ i → i ≤ 1000000000 → i - a ≤ 1000000 → RangeI [.int a, .int i] (rangeL a i)
  | down {a i : Int} : -1000000000 ≤ a → a ≤ 1000000000 → -1000000000 ≤ i → i ≤ 1000000000 → a - i ≤ 1000000 → RangeI [.int a, .int i, .int (-1)] (rangeDown a i)
theorem zi8 {ds l : List D} (hl : opRange ds = some l) : RangeI ds l := by
  rcases ds with _ | ⟨a0, t⟩
  · cases hl
  cases a0 <;> try (cases hl; done)
  rename_i a
  rcases t with _ | ⟨a1, t⟩
  · rename Int => i
    replace hl : (if (small i && decide (i ≤ 1000000)) = true then some (rangeL 0 i) else none) = some l := hl
    split at hl
    · rename_i hi
      cases hl
      obtain ⟨h1, h2⟩ := Bool.and_eq_true _ _ ▸ hi
      obtain ⟨h3, h4⟩ := zc2 h1
      exact .one h3 h4 (of_decide_eq_true h2)
    · cases hl
  cases a1 <;> try (cases hl; done)
  rename_i i
  rcases t with _ | ⟨a2, t⟩
  · replace hl : (if (small a && small i && decide (i - a ≤ 1000000)) = true then some (rangeL a i) else none) = some l := hl
    split at hl
    · rename_i hi
      cases hl
      obtain ⟨h12, h5⟩ := Bool.and_eq_true _ _ ▸ hi
      obtain ⟨h1, h2⟩ := Bool.and_eq_true _ _ ▸ h12
      obtain ⟨h3, h4⟩ := zc2 h1
      obtain ⟨h6, h7⟩ := zc2 h2
      exact .two h3 h4 h6 h7 (of_decide_eq_true h5)
    · cases hl
  cases a2 <;> try (cases hl; done)
  rename_i c
  rcases t with _ | ⟨a3, t⟩ <;> try (cases hl; done)
  replace hl : (if c = -1 ∧ small a ∧ small i ∧ a - i ≤ 1000000 then some (rangeDown a i) else none) = some l := hl
  split at hl
  · rename_i hi
    cases hl
    obtain ⟨rfl, h1, h2, h5⟩ := hi
    obtain ⟨h3, h4⟩ := zc2 h1
    obtain ⟨h6, h7⟩ := zc2 h2
    exact .down h3 h4 h6 h7 h5
  · cases hl
theorem ze6 {A : Around} {F₀ F : Addr → Prop} {s₀ s : Shared} (ok : CxOk cx) (st : Step cx F₀ s₀ F s) {vs : List Value} {ds : List D} (q : BRepL cx F s.heap vs ds) {l : List D} (hl : opRange ds = some l)
    {Q : Value → Shared → Prop} {E : Value → Shared → Prop} (hQ : ∀ (r : Addr) (a b c : Int) (t u v : Tok) (k : Nat) (s' : Shared), Step cx F₀ s₀ F s' → IsRange s'.heap r a b c t u v → Builtin.Range.small a b c = true → Builtin.Range.rangeSize a b c = (k : Int) → k ≤ lim → l = (upTo k a c).map .int → Q (.ref r) s') :
    wpAny (model cx.prog cx.w) A (call (.type "range") vs) Q E s := by
  cases zi8 hl with
  | @one i h3 h4 h2 =>
    obtain ⟨v, rfl, q1⟩ := q.one
    obtain ⟨t, rfl⟩ := q1.int_inv
    exact call_range_1 (hQ _ 0 i 1 _ _ _ (i - 0).toNat _ (st.trans (Step.push ok st.wd ({ cls := .type "range", data := .fields #[.int 0 s.toks, .int i t, .int 1 (s.toks + 1)] } : Obj) (s.toks + 1 + 1))) (IsRange.new s.heap 0 i 1 _ _ _) (small_one (by decide) (by decide) (lo62 h3) (hi62 h4)) (by rw [rangeSize_one, zhz]) (zd5 (by rw [Int.sub_zero]; exact h2)) rfl)
  | @two a i h3 h4 h6 h7 h5 =>
    obtain ⟨v, v', rfl, q1, q2⟩ := q.two
    obtain ⟨t, rfl⟩ := q1.int_inv
    obtain ⟨u, rfl⟩ := q2.int_inv
    exact call_range_2 (hQ _ a i 1 _ _ _ (i - a).toNat _ (st.trans (Step.push ok st.wd ({ cls := .type "range", data := .fields #[.int a t, .int i u, .int 1 s.toks] } : Obj) (s.toks + 1))) (IsRange.new s.heap a i 1 _ _ _) (small_one (lo62 h3) (hi62 h4) (lo62 h6) (hi62 h7)) (by rw [rangeSize_one, zhz]) (zd5 h5) rfl)
  | @down a i h3 h4 h6 h7 h5 =>
    cases q with
    | cons q1 q => cases q with | cons q2 q => cases q with | cons q3 q =>
    cases q
    obtain ⟨t, rfl⟩ := q1.int_inv
    obtain ⟨u, rfl⟩ := q2.int_inv
    obtain ⟨x, rfl⟩ := q3.int_inv
    exact call_range_3 (by decide) (hQ _ a i (-1) _ _ _ (a - i).toNat _ (st.trans (Step.push ok st.wd ({ cls := .type "range", data := .fields #[.int a t, .int i u, .int (-1) x] } : Obj) s.toks)) (IsRange.new s.heap a i (-1) _ _ _) (PySem.W.small_down (lo62 h3) (hi62 h4) (lo62 h6) (hi62 h7)) (PySem.W.rangeSize_downNat a i) (zd5 h5) rfl) (Or.inl (PyProof.noPylong_small (by decide)))
theorem ziJ {A : Around} {n : Nat} (hb : BudE n A) {F₀ F : Addr → Prop} {s₀ s : Shared} (ok : CxOk cx) (w₀ : Wd cx F₀ s₀) (st : Step cx F₀ s₀ F s) {vs : List Value} {ds : List D} (q : BRepL cx F s.heap vs ds) {l : List D} (hl : opRange ds = some l)
    {Q : Value → Shared → Prop} {E : Value → Shared → Prop} (hQ : ∀ I F' s' fp wr P St, Iter cx A F₀ s₀ l I F' s' fp wr P St → Q (.ref I) s') :
    wpAny (model cx.prog cx.w) A (call (.type "range") vs) (fun v s₁ => wpAny (model cx.prog cx.w) A (pyIter v) Q E s₁) E s :=
  ze6 ok st q hl fun r a b c t u v k s' st' hr hs hk hl' e => ziv hb.hd ok w₀ st' hr hs hk hl' (e ▸ hQ)
theorem zj6 {cf : Nat → List D → Option D} {x : X} {ρ : List Slot} {items : List D} (h : evI cf (.rangeI x) ρ = some items) : ∃ rs, ev cf x ρ = some rs ∧ opRange (rs.map R.ds) = some items := by
  unfold evI at h
  split at h
  · rename_i l e
    cases h
    replace e := (zaE _).symm.trans e
    split at e
    · rename_i rs e1
      obtain ⟨l', e3, e4⟩ := Option.map_eq_some_iff.mp e
      cases e4
      exact ⟨rs, e1, e3⟩
    · cases e
  · cases h
theorem zbx {p pos : Pos} {es : List Expr} {x : X} (hk : ε.kinds.lookup ("range" : Str) = some .globalImplicit) (hg : cx.mg ("range" : Str) = none) (h : SoundL cx ε es x false) : SoundI cx ε (.Call (.Name "range" p) es [] pos) (.rangeI x) := by
  intro n cf A env F s ρ ad m cm H items hi Q E hQ
  obtain ⟨rs, e1, e2⟩ := zj6 hi
  rw [zay (by intro _ _ _ e; cases e)]
  refine wpAny_bind (zaS H hk hg (by decide) (v := .type "range") (by rfl) (by decide) ?_)
  refine PyProof.Rows.callWith_type (zaL h) (za0 h H e1 fun vs F' s' st q => ?_)
  exact ziJ H.bud H.ok H.wd st q.brep e2 hQ
end
section
variable {cx : XCx} {ε : Sc} {n : Nat} {cf : Nat → List D → Option D} {A : Around} {env : Env} {F F₀ F' : Addr → Prop} {s s₀ s' : Shared} {ρ ρ' : List Slot} {ad ad' : Nat → Addr} {m cm m' cm' : Str → Option Value}
theorem SlotRep.own_inv {h : Heap} {i : Nat} {ov : Option Value} {l : List D} (q : SlotRep cx F h ad i ov (.own l)) : ov = some (.ref (ad i)) ∧ ∃ vs k, h.get? (ad i) = some (lobj vs.toArray k) ∧ vs.length ≤ lim ∧ RepL cx.T F h vs l := by
  cases q with
  | own _ _ g z q => exact ⟨rfl, _, _, g, z, q⟩
inductive OwnNow (cx : XCx) (F : Addr → Prop) (h : Heap) (a : Addr) (l : List D) : Prop
  | mk (vs : List Value) (k : Nat) (g : h.get? a = some (lobj vs.toArray k)) (z : vs.length ≤ lim) (q : RepL cx.T F h vs l)
theorem zei (H : HereS cx ε n cf A env F s ρ ad m cm) {x : Str} {i : Nat} (hx : ε.vars.lookup x = some i) {l : List D} (hi : ownAt ρ i = some l) : OwnNow cx F s.heap (ad i) l := by
  have hs := (zdY hi).1
  rcases H.frm.en.vars x i hx with ⟨_, q⟩ | ⟨_, _, q⟩ <;> rw [hs] at q <;> exact (let ⟨vs, k, g, z, q⟩ := q.own_inv.2; ⟨vs, k, g, z, q⟩)
theorem zfL (H : HereS cx ε n cf A env F s ρ ad m cm) {x : Str} {i : Nat} {p : Pos} (hx : ε.vars.lookup x = some i) (hn : (x == ("__classdict__" : Str)) = false) (hd : (x == ("__debug__" : Str)) = false) {l : List D} (hi : ownAt ρ i = some l)
    {Q : Value → Shared → Prop} {E : Value → Shared → Prop} (h : Q (.ref (ad i)) s) : wpAny (model cx.prog cx.w) A (eval (.Name x p) env) Q E s := by
  have hs := (zdY hi).1
  refine wpAny_Name (zd1 H.here hx hn (fun v q => ?_) (by rw [hs]; intro e; cases e)) hd
  rw [hs] at q
  cases q.own_inv.1
  exact h
theorem zcP (H₀ : HereS cx ε n cf A env F₀ s₀ ρ ad m cm) (st : Step cx F₀ s₀ F s) {x : Str} {i : Nat} (hx : ε.vars.lookup x = some i) {l : List D} (hi : ownAt ρ i = some l) {h' : Heap} (sb : Heap.SameBut (ad i) s.heap h') {vs' : List Value} {k' : Nat} {l' : List D}
    (hl' : h'.get? (ad i) = some (lobj vs'.toArray k')) (z : vs'.length ≤ lim) (q' : RepL cx.T F s.heap vs' l') (k : Nat) :
    StepS cx env F₀ s₀ ρ ad F { s with heap := h', toks := k } (ρ.set i (.own l')) ad ∧ Frm cx ε env F { s with heap := h', toks := k } (ρ.set i (.own l')) ad m cm := by
  have H := H₀.step st
  have f := H.frm
  have hs := (zdY hi).1
  have hb : Mut env ρ ad (ad i) := .inr (.inr ⟨i, l, hs, rfl⟩)
  obtain ⟨nf, nx, _, nl, nc⟩ := f.own i l hs
  obtain ⟨w', keep⟩ := zhg H hb sb k
  have q2 : RepL cx.T F h' vs' l' := q'.mono (fun _ h => h) keep
  refine ⟨zeg H₀ st hb sb k (fun _ _ => .inl hb) (fun _ _ => rfl), Frm.put H hb sb k (f.en.ns.sameBut sb (Ne.symm nl)) (fun n c hc => ?_) (fun _ _ _ _ => ⟨rfl, rfl⟩) (fun y hy => ?_) (fun _ _ => rfl) (.inl rfl) (fun j l2 hj hne e => hne (f.oinj j i _ _ hj hs e)) (fun _ _ => ?_)⟩
  · obtain ⟨o, g, d⟩ := f.en.cells n c hc
    exact ⟨o, (sb.2 c fun e => nc n (e ▸ hc)).trans g, d⟩
  · have key : ∀ ov, SlotRep cx F s.heap ad i ov (slotAt ρ i) → SlotRep cx F h' ad i ov (.own l') := by
      intro ov q
      rw [hs] at q
      rw [q.own_inv.1]
      exact .own nf nx hl' z q2
    refine ⟨fun hk => ?_, fun hk => ?_⟩
    · rcases f.en.vars y i hy with ⟨_, q⟩ | ⟨e, _⟩
      · exact key _ q
      · rw [hk] at e; rcases e with e | e <;> cases e
    · rcases f.en.vars y i hy with ⟨e, _⟩ | ⟨_, _, q⟩
      · exact absurd e hk
      · exact key _ q
  · exact ⟨nf, nx, ⟨_, _, hl'⟩, nl, nc, fun j l2 hj hs2 e => hj (f.oinj j i _ _ hs2 hs e)⟩
theorem zfz {h : Heap} {a : Addr} {vs : List Value} {k : Nat} (g : h.get? a = some (lobj vs.toArray k)) (f : Array Value → Array Value) (ws : List Value) (hf : f vs.toArray = ws.toArray) :
    ∃ k', (h.update a (Obj.mapSeq f)).get? a = some (lobj ws.toArray k') := by
  have := IsL.update (n := k) (items := vs.toArray) (show IsL h a vs.toArray k from g) f
  rw [hf] at this
  exact ⟨_, this⟩
theorem zj8 (vs : List Value) (j : Nat) : vs.toArray.eraseIdxIfInBounds j = (vs.eraseIdx j).toArray := by
  unfold Array.eraseIdxIfInBounds
  split
  · rw [List.eraseIdx_toArray]
  · rename_i h
    rw [List.size_toArray] at h
    rw [List.eraseIdx_of_length_le (by omega)]
theorem exprS {e : Expr} {pos : Pos} {Q : Flow → Shared → Prop} {E : Value → Shared → Prop} (hi : env.scope.kind = .function) (hs : swapsWith e none pos.line env = pure false)
    (h : wpAny (model cx.prog cx.w) A (eval e env) (fun v s' => (∀ a, v ≠ .ref a) ∧ Q .next s') E s) : wpAny (model cx.prog cx.w) A (exec (.Expr e pos) env) Q E s := by
  refine wpAny_Expr (wpAny_mono h (fun v s' h' => ?_) fun _ _ e => e) ?_ hs
  · cases v <;> first | exact h'.2 | exact absurd rfl (h'.1 _)
  · unfold interactive; rw [hi]; rfl
end
section
variable {cx : XCx} {ε : Sc}
theorem zh0 {cf : Nat → List D → Option D} {y : X} {ρ : List Slot} {r : R} (h : ev cf y ρ = some [r]) : ev cf (.cons y .nil) ρ = some [r] := by
  rw [za5, h]; rfl
theorem arg1 {n cf A env F s ρ ad m cm} (H : Here cx ε n cf A env F s ρ ad m cm) {e : Expr} {y : X} {pos : Pos} {f : Value} (h : Sound cx ε e y) (hst : starred e = false) {d : D} (hd : ev1 cf y ρ = some d) {Q : Args → Shared → Prop} {E : Value → Shared → Prop}
    (hQ : ∀ v F' s', Step cx F s F' s' → Rep cx.T F' s'.heap v d → Q ⟨[v], []⟩ s') : wpAny (model cx.prog cx.w) A (evalArgs f true (backTo pos (starEach [e] env)) []) Q E s := by
  obtain ⟨r, e1, e2⟩ := zhm hd
  refine za0 (SoundL.cons h hst .nil) H (zh0 e1) fun vs F' s' st q => ?_
  obtain ⟨F'', st', _, q'⟩ := zhV H.ok H.wd st (fun _ h => h) q (ds := [d]) (by unfold fzAll; rw [e2]; rfl)
  cases q' with
  | cons a b => cases b; exact hQ _ F'' s' st' a
theorem zb7 {x : Str} {i : Nat} {e : Expr} {y : X} {p apos pos pos' : Pos} (hx : ε.vars.lookup x = some i) (hn : (x == ("__classdict__" : Str)) = false) (hd : (x == ("__debug__" : Str)) = false) (hl : (apos.endLine == pos.line) = true)
    (h : Sound cx ε e y) (hst : starred e = false) : SoundS cx ε (.Expr (.Call (.Attribute (.Name x p) "append" apos) [e] [] pos) pos') (.append i y) := by
  intro n cf A env F s ρ ad m cm H ρ' o he Q E hQ
  replace he := (zff cf).symm.trans he
  split at he
  · rename_i d l e1 e2
    split at he
    · rename_i hz
      cases he
      refine exprS H.frm.en.kind rfl ?_
      refine zc8 rfl hl (by simp) (by rw [zaL (SoundL.cons h hst .nil)]) ?_
      refine zfL H hx hn hd e2 ?_
      obtain ⟨vs, k, g, _, _⟩ := zei H hx e2
      refine Calls.getMethod_list_append g rfl rfl ?_
      refine Calls.callWith_builtin (zaL (SoundL.cons h hst .nil)) (arg1 H.here h hst e1 fun v F' s' st q => ?_)
      obtain ⟨vs, k, g, z, qs⟩ := zei (H.step st) hx e2
      show wpAny _ _ (call (.builtin "list.append") [.ref (ad i), v]) _ _ s'
      have hlen : vs.length = l.length := qs.length
      refine call_meets PySem.F.slot_list_append ⟨_, g, rfl⟩ PySem.F.entry_list_append (PySem.F.args_list_append_2 _ _) (list_append (ad i) vs.toArray k v (by rw [List.size_toArray]; exact zaA z)) ⟨g, ?_⟩
      refine ⟨(fun a e => nomatch e), ?_⟩
      obtain ⟨k', g'⟩ := zfz g (fun x => x.push v) (vs ++ [v]) (by simp)
      obtain ⟨x1, f1⟩ := zcP H st hx e2 (Heap.SameBut.update ..) g' (by simp; omega) (qs.append (.cons q .nil)) s'.toks
      exact hQ .next F' _ ad m cm x1 f1 .next
    · cases he
  · cases he
theorem zie {x : Str} {i : Nat} {p apos pos pos' : Pos} (hx : ε.vars.lookup x = some i) (hn : (x == ("__classdict__" : Str)) = false) (hd : (x == ("__debug__" : Str)) = false) (hl : (apos.endLine == pos.line) = true) :
    SoundS cx ε (.Expr (.Call (.Attribute (.Name x p) "pop" apos) [] [] pos) pos') (.pop i) := by
  intro n cf A env F s ρ ad m cm H ρ' o he Q E hQ
  replace he := (exq_pop cf).symm.trans he
  split at he
  · rename_i l e2
    split at he
    · rename_i y e1
      cases he
      refine exprS H.frm.en.kind rfl ?_
      refine zc8 rfl hl (by simp) (zaL (ε := ε) (cx := cx) .nil) ?_
      refine zfL H hx hn hd e2 ?_
      obtain ⟨vs, k, g, z, qs⟩ := zei H hx e2
      refine getMethod_builtin (T := "list") ⟨_, g, rfl⟩ PySem.F.plainAttrs_list PySem.F.slot_list_pop PySem.F.type_list_pop (fun a e => ⟨_, by cases e; exact g, rfl⟩) ?_
      refine Calls.callWith_builtin (zaL (ε := ε) (cx := cx) .nil) (PySem.evalArgs_none ?_)
      show wpAny _ _ (call (.builtin "list.pop") [.ref (ad i)]) _ _ s
      have hlen : vs.length = l.length := qs.length
      rw [List.getLast?_eq_getElem?] at e1
      obtain ⟨v, hv, rv⟩ := qs.get e1
      cases rv with
      | str t pp zz =>
      refine call_meets PySem.F.slot_list_pop ⟨_, g, rfl⟩ PySem.F.entry_list_pop (PySem.F.args_list_pop_1 _) (MeetsSeq.list_pop_last (ad i) vs.toArray k _ (by rw [List.size_toArray, List.getElem?_toArray, hlen]; exact hv) (by rw [List.size_toArray]; exact zaA z)) ⟨g, ?_⟩
      refine ⟨(fun a e => nomatch e), ?_⟩
      obtain ⟨k', g'⟩ := zfz g (fun xs => xs.eraseIdxIfInBounds (vs.toArray.size - 1)) vs.dropLast (by
        show vs.toArray.eraseIdxIfInBounds (vs.toArray.size - 1) = _
        rw [zj8, List.size_toArray, List.eraseIdx_length_sub_one])
      obtain ⟨x1, f1⟩ := zcP H (Step.refl H.wd) hx e2 (Heap.SameBut.update ..) g' (by simp; omega) qs.dropLast s.toks
      exact hQ .next F _ ad m cm x1 f1 .next
    · cases he
  · cases he
end
section
variable {cx : XCx} {ε : Sc}
theorem zgh {x y : Str} {i j : Nat} {p p' apos pos : Pos} (hx : ε.vars.lookup x = some i) (hf : ε.kinds.lookup x ≠ some .free) (hy : ε.vars.lookup y = some j) (hn : (y == ("__classdict__" : Str)) = false) (hd : (y == ("__debug__" : Str)) = false) :
    SoundS cx ε (.Assign [.Name x p'] (.Attribute (.Name y p) "append" apos) pos) (.alias i j) := by
  intro n cf A env F s ρ ad m cm H ρ' o he Q E hQ
  replace he := (zgC cf).symm.trans he
  split at he
  · rename_i l e1
    cases he
    refine wpAny_Assign_Name ?_ rfl
    rw [arm_eval_Attribute]
    show wpAny _ _ (do
      let o ← attributeBase (.Name y p) "append" env (eval (.Name y p) env)
      standAt apos.atName
      let r ← holding [o] (getAttr o "append" true)
      letTemporaryGo (.Name y p) o r
      pure r) _ _ _
    rw [zdE rfl]
    refine wpAny_bind (zfL H hy hn hd e1 ?_)
    obtain ⟨vs, k, g, z, qs⟩ := zei H hy e1
    refine wpAny_bind (wpAny_standAt (wpAny_bind (wpAny_holding (zeT g ?_))))
    refine wpAny_bind (wpAny_pure (wpAny_pure ?_))
    have st := Step.push H.ok H.wd (appObj (ad j)) (s.toks + 1)
    have g' : (s.heap.push (appObj (ad j))).get? s.heap.objs.size = some (appObj (ad j)) := Heap.get?_push_size _ rfl
    have st' := st.freeze H.ok H.wd (zaz _) g'
    refine zea H st' hx hf (sl := .app j) (ad' := ad) (fun _ _ => rfl) (.inl rfl) (fun h' hk => .app (.inr rfl) (hk _ _ (.inl (.inr rfl)) g') rfl) (fun _ e => nomatch e) fun s'' m' cm' x f => hQ .next _ s'' ad m' cm' x f .next
  · cases he
theorem zaC {x y : Str} {i j : Nat} {e : Expr} {z : X} {p pos pos' : Pos} (hx : ε.vars.lookup x = some i) (hy : ε.vars.lookup y = some j) (hn : (x == ("__classdict__" : Str)) = false) (hd : (x == ("__debug__" : Str)) = false)
    (h : Sound cx ε e z) (hst : starred e = false) : SoundS cx ε (.Expr (.Call (.Name x p) [e] [] pos) pos') (.appendVia i j z) := by
  intro n cf A env F s ρ ad m cm H ρ' o he Q E hQ
  replace he := (zdg cf).symm.trans he
  split at he
  · rename_i j' e0
    split at he
    · rename_i ej
      subst ej
      split at he
      · rename_i d l e1 e2
        split at he
        · rename_i hz
          cases he
          have hs : slotAt ρ i = .app j' := by unfold slotAt; simp [List.getD, e0]
          refine exprS H.frm.en.kind rfl ?_
          rw [zay (by intro _ _ _ e; cases e)]
          refine wpAny_bind (wpAny_Name (zd1 H.here hx hn (fun v q => ?_) (by rw [hs]; intro e; cases e)) hd)
          rw [hs] at q
          cases q with
          | @app b o _ fb g eo =>
          subst eo
          refine zeY (l := ad j') (zaL (SoundL.cons h hst .nil)) (arg1 H.here h hst e1 fun v F' s' st q => ?_)
          have g' := st.keep _ _ g (H.wd.nx _ fb)
          refine ⟨g', ?_⟩
          obtain ⟨vs, k, gl, z, qs⟩ := zei (H.step st) hy e2
          have hlen : vs.length = l.length := qs.length
          refine wpAny_call (ziL g' gl (zhs gl (by rw [List.size_toArray]; exact zaA z) ?_))
          refine ⟨(fun a e => nomatch e), ?_⟩
          obtain ⟨k', gk⟩ := zfz gl (fun x => x.push v) (vs ++ [v]) (by simp)
          obtain ⟨x1, f1⟩ := zcP H st hy e2 (Heap.SameBut.update ..) gk (by simp; omega) (qs.append (.cons q .nil)) s'.toks
          exact hQ .next F' _ ad m cm x1 f1 .next
        · cases he
      · cases he
    · cases he
  · cases he
theorem ze3 {x : Str} {i : Nat} {e : Expr} {z : X} {p pos : Pos} (hx : ε.vars.lookup x = some i) (hf : ε.kinds.lookup x ≠ some .free) (hn : (x == ("__classdict__" : Str)) = false) (h : Sound cx ε e z) :
    SoundS cx ε (.AugAssign (.Name x p) .Add e pos) (.aug i z) := by
  intro n cf A env F s ρ ad m cm H ρ' o he Q E hQ
  replace he := (exq_aug cf).symm.trans he
  split at he
  · rename_i a b e0 e1
    split at he
    · rename_i hz
      cases he
      have hs : slotAt ρ i = .val (.str a) := by unfold slotAt; simp [List.getD, e0]
      refine wpAny_AugAssign_Name (zd1 H.here hx hn (fun v q => ?_) (by rw [hs]; intro e; cases e))
      rw [hs] at q
      cases q with
      | val q =>
      cases q with
      | str t pa za =>
      refine zeu H h e1 fun v F' s' st q => ?_
      cases q with
      | str u pb zb =>
      refine PyProof.Rows.iadd_str (fun t' tk => ?_) (by
        show a.toArray.size + b.toArray.size ≤ sizeLine
        rw [List.size_toArray, List.size_toArray]; exact zaA hz)
      have e : (PySem.Str.mk a.toArray ++ PySem.Str.mk b.toArray) = PySem.Str.mk (a ++ b).toArray := by
        show PySem.Str.mk (a.toArray ++ b.toArray) = _
        simp
      rw [e]
      have st2 := st.toks tk
      have r : Rep cx.T F' s'.heap (.str ⟨(a ++ b).toArray⟩ t') (.str (a ++ b)) := .str _ (fun c hc => (List.mem_append.mp hc).elim (pa c) (pb c)) (by rw [List.length_append]; exact hz)
      exact zcl H st2 hx hf r fun s'' m' cm' x f => hQ .next F' s'' ad m' cm' x f .next
    · cases he
  · cases he
end
inductive Stores (cx : XCx) (ε : Sc) (A : Around) (env : Env) : List (Value → Sem Unit) → List Nat → Prop
  | nil : Stores cx ε A env [] []
  | cons {f : Value → Sem Unit} {fs : List (Value → Sem Unit)} {x : Str} {i : Nat} {is : List Nat} : ε.vars.lookup x = some i → ε.kinds.lookup x ≠ some .free →
      (∀ (v : Value) (Q : Unit → Shared → Prop) (E : Value → Shared → Prop) (s : Shared), wpAny (model cx.prog cx.w) A (storeName env x v) Q E s → wpAny (model cx.prog cx.w) A (f v) Q E s) → Stores cx ε A env fs is → Stores cx ε A env (f :: fs) (i :: is)
section
variable {cx : XCx} {ε : Sc}
theorem Stores.run {n cf A env} {fs : List (Value → Sem Unit)} {is : List Nat} (S : Stores cx ε A env fs is) : ∀ {F s ρ ad m cm}, HereS cx ε n cf A env F s ρ ad m cm → ∀ {vs : List Value} {ds : List D}, RepL cx.T F s.heap vs ds → ds.length = is.length → ∀ {Q : Unit → Shared → Prop} {E : Value → Shared → Prop},
    (∀ F' s' m' cm', StepS cx env F s ρ ad F' s' (setAll ρ is ds) ad → Frm cx ε env F' s' (setAll ρ is ds) ad m' cm' → Q () s') → wpAny (model cx.prog cx.w) A (assignInOrder fs vs) Q E s := by
  induction S with
  | nil =>
    intro F s ρ ad m cm H vs ds q hl Q E hQ
    cases ds with
    | nil => cases q; exact wpAny_pure (hQ F s m cm (StepS.refl H.wd) H.frm)
    | cons _ _ => cases hl
  | @cons f fs x i is hx hf hs S ih =>
    intro F s ρ ad m cm H vs ds q hl Q E hQ
    cases ds with
    | nil => cases hl
    | cons d ds =>
      cases q with
      | @cons v vs _ _ a b =>
      show wpAny _ _ (do holding vs (f v); assignInOrder fs vs) Q E s
      refine wpAny_bind (wpAny_holding (hs v _ _ _ (zcl H (Step.refl H.wd) hx hf a fun s' m' cm' x1 f1 => ?_)))
      have H1 := H.stepS x1 f1
      exact ih H1 (x1.repL H b) (by simpa using hl) fun F2 s2 m2 cm2 x2 f2 => hQ F2 s2 m2 cm2 (x1.trans x2) f2
theorem zf0 {n cf A env F s ρ ad m cm} (H : HereS cx ε n cf A env F s ρ ad m cm) {a : Addr} {vs : List Value} (ht : s.heap.IsTuple a vs.toArray) {ds : List D} (q : RepL cx.T F s.heap vs ds) {k : Nat} (hk : ds.length = k) {Q : List Value → Shared → Prop} {E : Value → Shared → Prop}
    (hQ : ∀ vs s', Step cx F s F s' → RepL cx.T F s'.heap vs ds → Q vs s') : wpAny (model cx.prog cx.w) A (unpackItems (.ref a) k none) Q E s := by
  have hk' : k = vs.toArray.size := by rw [List.size_toArray, q.length, hk]
  rw [hk']
  refine wpAny_unpackItems_tuple H.bud.hd ht fun h' he => ?_
  have st : Step cx F s F { s with heap := h' } := Step.grown H.ok H.wd s.toks fun b o e => he b o (Nat.ne_of_lt (Heap.lt_size e)) e
  refine hQ _ _ st ?_
  have := st.repL H.wd q
  simpa using this
theorem zf9 {n cf A env F s ρ ad m cm} (H : HereS cx ε n cf A env F s ρ ad m cm) {elts : List Expr} {k : Nat} {pos : Pos} {a : Addr} {vs : List Value} (ht : s.heap.IsTuple a vs.toArray) {ds : List D} (q : RepL cx.T F s.heap vs ds) {is : List Nat} (hl : ds.length = is.length)
    (hlen : (assignEach elts env).length = is.length) (hst : (assignEach elts env).findIdx? (·.1) = none) (S : Stores cx ε A env ((assignEach elts env).map (·.2)) is) {Q : Unit → Shared → Prop} {E : Value → Shared → Prop}
    (hQ : ∀ F' s' m' cm', StepS cx env F s ρ ad F' s' (setAll ρ is ds) ad → Frm cx ε env F' s' (setAll ρ is ds) ad m' cm' → Q () s') : wpAny (model cx.prog cx.w) A (assign (.Tuple elts k pos) env (.ref a)) Q E s := by
  rw [arm_assign_Tuple]
  refine wpAny_bind (wpAny_standAt ?_)
  unfold unpack
  rw [hlen, hst]
  refine wpAny_bind (wpAny_holding (zf0 H ht q hl fun vs s' st q' => ?_))
  have H1 := H.step st
  exact S.run H1 q' hl fun F2 s2 m2 cm2 x2 f2 => hQ F2 s2 m2 cm2 ((StepS.ofStep st).trans x2) f2
theorem zlj {T : Nat → Addr} {F : Addr → Prop} {h : Heap} {v : Value} {ds : List D} (q : Rep T F h v (.tup ds)) : ∃ a vs, v = .ref a ∧ h.IsTuple a vs.toArray ∧ RepL T F h vs ds := by
  cases q with
  | tup f g z q => exact ⟨_, _, rfl, ⟨_, g, rfl, _, rfl⟩, q⟩
theorem zh8 {n cf A env F s ρ ad m cm} (H : HereS cx ε n cf A env F s ρ ad m cm) {v : Value} {ds : List D} (q : Rep cx.T F s.heap v (.tup ds)) {k : Nat} (hk : ds.length = k) {Q : List Value → Shared → Prop} {E : Value → Shared → Prop}
    (hQ : ∀ vs s', Step cx F s F s' → RepL cx.T F s'.heap vs ds → Q vs s') : wpAny (model cx.prog cx.w) A (unpackItems v k none) Q E s := by
  obtain ⟨a, vs, rfl, ht, q'⟩ := zlj q
  exact zf0 H ht q' hk hQ
theorem zib {n cf A env F s ρ ad m cm} (H : HereS cx ε n cf A env F s ρ ad m cm) {elts : List Expr} {k : Nat} {pos : Pos} {v : Value} {ds : List D} (q : Rep cx.T F s.heap v (.tup ds)) {is : List Nat} (hl : ds.length = is.length)
    (hlen : (assignEach elts env).length = is.length) (hst : (assignEach elts env).findIdx? (·.1) = none) (S : Stores cx ε A env ((assignEach elts env).map (·.2)) is) {Q : Unit → Shared → Prop} {E : Value → Shared → Prop}
    (hQ : ∀ F' s' m' cm', StepS cx env F s ρ ad F' s' (setAll ρ is ds) ad → Frm cx ε env F' s' (setAll ρ is ds) ad m' cm' → Q () s') : wpAny (model cx.prog cx.w) A (assign (.Tuple elts k pos) env v) Q E s := by
  obtain ⟨a, vs, rfl, ht, q'⟩ := zlj q
  exact zf9 H ht q' hl hlen hst S hQ
theorem zbY {A : Around} {env : Env} {x : Str} {p : Pos} : ∀ (v : Value) (Q : Unit → Shared → Prop) (E : Value → Shared → Prop) (s : Shared), wpAny (model cx.prog cx.w) A (storeName env x v) Q E s → wpAny (model cx.prog cx.w) A (assign (.Name x p) env v) Q E s :=
  fun _ _ _ _ h => wpAny_assign_Name h
theorem zeM {x y w : Str} {i j l : Nat} {p p' p'' pos' pos : Pos} {k : Nat} {e : Expr} {z : X} (hx : ε.vars.lookup x = some i) (hy : ε.vars.lookup y = some j) (hw' : ε.vars.lookup w = some l) (hfx : ε.kinds.lookup x ≠ some .free) (hfy : ε.kinds.lookup y ≠ some .free) (hfw : ε.kinds.lookup w ≠ some .free)
    (h : Sound cx ε e z) (hs : ∀ env, swapsWith e (some (.Tuple [.Name x p, .Name y p', .Name w p''] k pos')) pos.line env = pure false) (hw : ∀ env, swappedStores [.Tuple [.Name x p, .Name y p', .Name w p''] k pos'] e env = pure none) :
    SoundS cx ε (.Assign [.Tuple [.Name x p, .Name y p', .Name w p''] k pos'] e pos) (.assign3 i j l z) := by
  intro n cf A env F s ρ ad m cm H ρ' o he Q E hQ
  replace he := (zes cf).symm.trans he
  split at he <;> cases he
  rename_i a b c e1
  refine wpAny_Assign_stores (zeu H h e1 fun v F1 s1 st q => ?_) (hs env) (hw env)
  show wpAny _ _ (assign (.Tuple [.Name x p, .Name y p', .Name w p''] k pos') env v) _ _ _
  have H1 := H.step st
  exact zib H1 q (is := [i, j, l]) rfl rfl rfl (.cons hx hfx zbY (.cons hy hfy zbY (.cons hw' hfw zbY .nil))) fun F2 s2 m2 cm2 x2 f2 => hQ .next F2 s2 ad m2 cm2 ((StepS.ofStep st).trans x2) f2 .next
theorem zgf {x y : Str} {i j : Nat} {ts : List Expr} {pos' pos : Pos} {k : Nat} {e : Expr} {z : X} (hx : ε.vars.lookup x = some i) (hy : ε.vars.lookup y = some j) (hfx : ε.kinds.lookup x ≠ some .free) (hfy : ε.kinds.lookup y ≠ some .free) (hij : i ≠ j)
    (h : Sound cx ε e z) (hs : ∀ env, swapsWith e (some (.Tuple ts k pos')) pos.line env = pure false) (hw : ∀ env : Env, env.scope.kind = .function → env.scope.names = ε.kinds → swappedStores [.Tuple ts k pos'] e env = pure (some [x, y])) :
    SoundS cx ε (.Assign [.Tuple ts k pos'] e pos) (.assign2 i j z) := by
  intro n cf A env F s ρ ad m cm H ρ' o he Q E hQ
  replace he := (zet cf).symm.trans he
  split at he <;> cases he
  rename_i a b e1
  rw [exec_Assign_arm]
  refine wpAny_bind (wpAny_standAt ?_)
  rw [show swapsWithSole [.Tuple ts k pos'] e pos.line env = pure false from hs env]
  refine wpAny_bind (wpAny_pure ?_)
  rw [if_neg (by decide)]
  refine wpAny_bind (zeu H h e1 fun v F1 s1 st q => ?_)
  rw [hw env H.frm.en.kind H.frm.en.names]
  refine wpAny_bind (wpAny_pure ?_)
  have H1 := H.step st
  show wpAny _ _ (do
    rule "assign.swapped-stores"
    let items ← unpackItems v 2 none
    assignInOrder [bindName env y, bindName env x] items.reverse
    pure Flow.next) _ _ _
  refine wpAny_bind (wpAny_rule (wpAny_bind (zh8 H1 q rfl fun vs s2 st2 q2 => ?_)))
  have H2 := H1.step st2
  have q3 := q2.reverse
  have S : Stores cx ε A env [bindName env y, bindName env x] [j, i] := .cons hy hfy (fun _ _ _ _ h => wpAny_bindName h) (.cons hx hfx (fun _ _ _ _ h => wpAny_bindName h) .nil)
  refine wpAny_bind (S.run H2 q3 rfl fun F3 s3 m3 cm3 x3 f3 => wpAny_pure ?_)
  have e : setAll ρ [j, i] [a, b].reverse = (ρ.set i (.val a)).set j (.val b) := by
    show (ρ.set j (.val b)).set i (.val a) = _
    rw [List.set_comm _ _ hij]
  rw [e] at x3 f3
  exact hQ .next F3 s3 ad m3 cm3 (((StepS.ofStep st).trans (StepS.ofStep st2)).trans x3) f3 .next
theorem zcx {body : List Stmt} {h₀ : ExceptHandler} {hs : List ExceptHandler} {b : S} {pos : Pos} (hb : SoundSs cx ε body b) : SoundS cx ε (.Try body (h₀ :: hs) [] [] pos) (.try_ b) := by
  intro n cf A env F s ρ ad m cm H ρ' o h Q E hQ
  replace h := (zhW cf).symm.trans h
  refine wpAny_Try_except (hb n cf A env F s ρ ad m cm H ρ' o h _ _ fun f F' s' ad' m' cm' x fr q => ?_)
  cases q with
  | next => exact wpAny_execs_nil (hQ _ F' s' ad' m' cm' x fr .next)
  | brk => exact hQ _ F' s' ad' m' cm' x fr .brk
  | cont => exact hQ _ F' s' ad' m' cm' x fr .cont
  | ret r => exact hQ _ F' s' ad' m' cm' x fr (.ret r)
end
theorem zcU {env : Env} : ∀ (names : List (Str × NameKind)) (cs : List (Str × Addr)), (∀ n k, (n, k) ∈ names → k = .free → ∃ c, env.cells.lookup n = some c) → (∀ n c, cs.lookup n = some c → env.cells.lookup n = some c) →
    ∃ cs', (forIn names cs fun (x : Str × NameKind) (r : List (Str × Addr)) => (if (x.2 == NameKind.free) = true then do let c ← cellOf env x.1; pure (ForInStep.yield ((x.1, c) :: r)) else pure (ForInStep.yield r) : Sem (ForInStep (List (Str × Addr))))) = (pure cs' : Sem _) ∧
      (∀ n c, cs'.lookup n = some c → env.cells.lookup n = some c) ∧ (∀ n, (cs.lookup n).isSome ∨ (n, NameKind.free) ∈ names → (cs'.lookup n).isSome)
  | [], cs, _, h2 => ⟨cs, rfl, h2, fun n h => h.elim id fun h => nomatch h⟩
  | (n, k) :: r, cs, h1, h2 => by
    rw [List.forIn_cons]
    by_cases hk : k = .free
    · subst hk
      obtain ⟨c, hc⟩ := h1 n .free List.mem_cons_self rfl
      obtain ⟨cs', e, h3, h4⟩ := zcU r ((n, c) :: cs) (fun n' k' h => h1 n' k' (List.mem_cons_of_mem _ h)) (fun n' c' h => by
        rw [List.lookup_cons] at h
        cases hn : n' == n with
        | true => rw [hn] at h; cases h; rw [beq_iff_eq.mp hn]; exact hc
        | false => rw [hn] at h; exact h2 n' c' h)
      refine ⟨cs', ?_, h3, fun n' h => h4 n' ?_⟩
      · have e1 : cellOf env n = pure c := by unfold cellOf; rw [hc]
        simp only [beq_self_eq_true, if_true, e1, pure_bind]
        exact e
      · rw [List.lookup_cons]
        cases hn : n' == n with
        | true => exact .inl rfl
        | false =>
          rcases h with h | h
          · exact .inl h
          · rcases List.mem_cons.mp h with h | h
            · cases h; simp at hn
            · exact .inr h
    · obtain ⟨cs', e, h3, h4⟩ := zcU r cs (fun n' k' h => h1 n' k' (List.mem_cons_of_mem _ h)) h2
      have hb : (k == NameKind.free) = false := by simpa using hk
      refine ⟨cs', ?_, h3, fun n' h => h4 n' (h.imp id fun h => ?_)⟩
      · simp only [hb, Bool.false_eq_true, if_false, pure_bind]
        exact e
      · rcases List.mem_cons.mp h with h | h
        · cases h; exact absurd rfl hk
        · exact h
theorem ziH {scope : Scope} {env : Env} (h : ∀ n k, (n, k) ∈ scope.names → k = .free → ∃ c, env.cells.lookup n = some c) :
    ∃ cl, closureFor scope env = pure cl ∧ (∀ n c, cl.lookup n = some c → env.cells.lookup n = some c) ∧ (∀ n, (n, NameKind.free) ∈ scope.names → (cl.lookup n).isSome) := by
  obtain ⟨cs', e, h3, h4⟩ := zcU scope.names [] h (fun _ _ h => nomatch h)
  refine ⟨cs', ?_, h3, fun n h => h4 n (.inr h)⟩
  unfold closureFor
  simp only [bind_pure]
  refine Eq.trans ?_ e
  congr 1
noncomputable def relab (ks : List (Str × NameKind)) (names : List (Str × NameKind)) : List (Str × NameKind) :=
  names.map fun (n, k) => if (k == .free && ks.lookup n == some .cell) then (n, .cell) else (n, k)
noncomputable def compSc (ε : Sc) (scope : Scope) (tv : List (Str × Nat)) : Sc :=
  ⟨relab ε.kinds scope.names, tv ++ ε.vars.filter fun y => scope.names.lookup y.1 == some .free, ε.code⟩
theorem zcN {ks : List (Str × NameKind)} {x : Str} : ∀ {names : List (Str × NameKind)}, names.lookup x = some .local → (relab ks names).lookup x = some .local
  | [], h => nomatch h
  | (n, k) :: r, h => by
    unfold relab
    rw [List.map_cons]
    rw [List.lookup_cons] at h
    cases hx : x == n with
    | true =>
      rw [hx] at h
      cases h
      show List.lookup x ((n, NameKind.local) :: _) = _
      rw [List.lookup_cons, hx]
    | false =>
      rw [hx] at h
      by_cases hc : (k == .free && ks.lookup n == some .cell) = true
      · simp only [hc, if_true, List.lookup_cons, hx]; exact zcN h
      · simp only [if_neg hc, List.lookup_cons, hx]; exact zcN h
theorem zdl {ks : List (Str × NameKind)} {x : Str} : ∀ {names : List (Str × NameKind)}, names.lookup x = some .free → (relab ks names).lookup x = some .cell ∨ (relab ks names).lookup x = some .free
  | [], h => nomatch h
  | (n, k) :: r, h => by
    unfold relab
    rw [List.map_cons]
    rw [List.lookup_cons] at h
    cases hx : x == n with
    | true =>
      rw [hx] at h
      cases h
      by_cases hc : (NameKind.free == .free && ks.lookup n == some .cell) = true
      · left; simp only [hc, if_true, List.lookup_cons, hx]
      · right; simp only [if_neg hc, List.lookup_cons, hx]
    | false =>
      rw [hx] at h
      by_cases hc : (k == .free && ks.lookup n == some .cell) = true
      · simp only [hc, if_true, List.lookup_cons, hx]; exact zdl h
      · simp only [if_neg hc, List.lookup_cons, hx]; exact zdl h
theorem za3 {β : Type} {p : Str → Bool} {x : Str} {j : β} : ∀ {l : List (Str × β)}, (l.filter fun y => p y.1).lookup x = some j → l.lookup x = some j ∧ p x = true
  | [], h => nomatch h
  | (n, k) :: r, h => by
    rw [List.filter_cons] at h
    rw [List.lookup_cons]
    cases hx : x == n with
    | true =>
      have e := beq_iff_eq.mp hx
      subst e
      by_cases hp : p x = true
      · simp only [hp, if_true, List.lookup_cons, hx] at h
        exact ⟨h, hp⟩
      · rw [if_neg hp] at h
        exact absurd (za3 h).2 hp
    | false =>
      by_cases hp : p n = true
      · simp only [hp, if_true, List.lookup_cons, hx] at h
        exact za3 h
      · rw [if_neg hp] at h
        exact za3 h
theorem zc9 {β : Type} {x : Str} : ∀ {l r : List (Str × β)}, (l ++ r).lookup x = (match l.lookup x with | some b => some b | none => r.lookup x)
  | [], r => rfl
  | (n, k) :: l, r => by
    rw [List.cons_append, List.lookup_cons, List.lookup_cons]
    cases hx : x == n with
    | true => rfl
    | false => exact zc9
noncomputable def updL (m : Str → Option Value) : List Str → List Value → Str → Option Value
  | x :: xs, v :: vs => updL (fun y => if y = x then some v else m y) xs vs
  | _, _ => m
theorem zhv {x : Str} : ∀ {xs : List Str} {vs : List Value} {m : Str → Option Value}, x ∉ xs → updL m xs vs x = m x
  | [], _, _, _ => rfl
  | _ :: _, [], _, _ => rfl
  | y :: xs, v :: vs, m, h => by
    show updL _ xs vs x = _
    rw [zhv fun h' => h (List.mem_cons_of_mem _ h')]
    exact if_neg fun (e : x = y) => h (by rw [e]; exact List.mem_cons_self)
theorem zdk {j : Nat} : ∀ {is : List Nat} {ds : List D} {ρ : List Slot}, j ∉ is → slotAt (setAll ρ is ds) j = slotAt ρ j
  | [], _, _, _ => rfl
  | _ :: _, [], _, _ => rfl
  | i :: is, d :: ds, ρ, h => by
    show slotAt (setAll (ρ.set i (.val d)) is ds) j = _
    rw [zdk fun h' => h (List.mem_cons_of_mem _ h'), zaW, if_neg fun (e : j = i) => h (by rw [e]; exact List.mem_cons_self)]
theorem zf8 {cx : XCx} {F : Addr → Prop} {h : Heap} {ad : Nat → Addr} {x : Str} {i : Nat} : ∀ {xs : List Str} {is : List Nat} {vs : List Value} {ds : List D} {m : Str → Option Value} {ρ : List Slot}, xs.Nodup → is.Nodup → xs.length = is.length → ds.length = is.length → RepL cx.T F h vs ds → (xs.zip is).lookup x = some i →
    SlotRep cx F h ad i (updL m xs vs x) (slotAt (setAll ρ is ds) i) := by
  intro xs
  induction xs with
  | nil => intro is vs ds m ρ _ _ _ _ _ e; cases e
  | cons y xs ih =>
    intro is vs ds m ρ h1 h2 h3 h4 q e
    cases is with
    | nil => cases h3
    | cons j is => cases q with
      | nil => cases h4
      | @cons v vs d ds a b =>
        rw [List.zip_cons_cons, List.lookup_cons] at e
        obtain ⟨n1, h1'⟩ := List.nodup_cons.mp h1
        obtain ⟨n2, h2'⟩ := List.nodup_cons.mp h2
        cases hx : x == y with
        | true =>
          rw [hx] at e
          cases e
          have ey := beq_iff_eq.mp hx
          subst ey
          show SlotRep cx F h ad i (updL _ xs vs x) (slotAt (setAll (ρ.set i (.val d)) is ds) i)
          rw [zhv n1, zdk n2, zaW, if_pos rfl, if_pos rfl]
          split
          · exact .val a
          · exact .unset
        | false =>
          rw [hx] at e
          show SlotRep cx F h ad i (updL _ xs vs x) (slotAt (setAll (ρ.set j (.val d)) is ds) i)
          exact ih h1' h2' (Nat.succ.inj h3) (Nat.succ.inj h4) b e
theorem zdL {x : Str} {i : Nat} : ∀ {xs : List Str} {is : List Nat}, (xs.zip is).lookup x = some i → x ∈ xs ∧ i ∈ is
  | [], _, h => nomatch h
  | _ :: _, [], h => nomatch h
  | y :: xs, j :: is, h => by
    rw [List.zip_cons_cons, List.lookup_cons] at h
    cases hx : x == y with
    | true => rw [hx] at h; cases h; rw [beq_iff_eq.mp hx]; exact ⟨List.mem_cons_self, List.mem_cons_self⟩
    | false => rw [hx] at h; obtain ⟨a, b⟩ := zdL h; exact ⟨List.mem_cons_of_mem _ a, List.mem_cons_of_mem _ b⟩
set_option genInjectivity false in
structure CompOK (ε : Sc) (scope : Scope) (xs : List Str) (is : List Nat) : Prop where
  kind : scope.kind = .function
  nocell : ∀ y ∈ scope.names, y.2 ≠ .cell
  names : ∀ y ∈ scope.names, y.2 = .local → scope.names.lookup y.1 = some .local
  xl : ∀ x ∈ xs, scope.names.lookup x = some .local
  free : ∀ y k, (y, k) ∈ scope.names → k = .free → (∃ j, ε.vars.lookup y = some j) ∧ ε.kinds.lookup y ≠ some .local
  apart : ∀ y j, ε.vars.lookup y = some j → j ∉ is
  xn : xs.Nodup
  isn : is.Nodup
  len : xs.length = is.length
theorem zaX {β : Type} {x : Str} {b : β} : ∀ {l : List (Str × β)}, l.lookup x = some b → (x, b) ∈ l
  | [], h => nomatch h
  | (n, k) :: r, h => by
    rw [List.lookup_cons] at h
    cases hx : x == n with
    | true => rw [hx] at h; cases h; rw [beq_iff_eq.mp hx]; exact List.mem_cons_self
    | false => rw [hx] at h; exact List.mem_cons_of_mem _ (zaX h)
section
variable {cx : XCx} {ε : Sc} {env : Env} {F : Addr → Prop} {h : Heap} {ρ : List Slot} {ad : Nat → Addr} {m cm : Str → Option Value}
theorem EnvOK.closure (e : EnvOK cx ε env F h ρ ad m cm) {scope : Scope} {xs : List Str} {is : List Nat} (c : CompOK ε scope xs is) :
    ∃ cl, closureFor scope env = pure cl ∧ (∀ n c, cl.lookup n = some c → env.cells.lookup n = some c) ∧ (∀ n, (n, NameKind.free) ∈ scope.names → (cl.lookup n).isSome) :=
  ziH fun n k hm hk => by
    obtain ⟨⟨j, hj⟩, hl⟩ := c.free n k hm hk
    rcases e.vars n j hj with ⟨h, _⟩ | ⟨_, h, _⟩
    · exact absurd h hl
    · exact h
theorem EnvOK.comp (e : EnvOK cx ε env F h ρ ad m cm) {scope : Scope} {xs : List Str} {is : List Nat} (c : CompOK ε scope xs is) {cl : List (Str × Addr)} (h1 : ∀ n c, cl.lookup n = some c → env.cells.lookup n = some c) (h2 : ∀ n, (n, NameKind.free) ∈ scope.names → (cl.lookup n).isSome)
    {C : Addr} (hC : ¬ cx.X C) {m₁ : Str → Option Value} {vs : List Value} {ds : List D} (hn : h.Ns C (updL m₁ xs vs)) (hd : ds.length = is.length) (hr : RepL cx.T F h vs ds) :
    EnvOK cx (compSc ε scope (xs.zip is)) (compEnvC scope cl C env) F h (setAll ρ is ds) ad (updL m₁ xs vs) cm := by
  refine ⟨c.kind, ?_, e.glob, e.blt, e.code, hC, fun n a ha => e.cxx n a (h1 n a ha), hn, fun n a ha => e.cells n a (h1 n a ha), fun y j hy => ?_⟩
  · show (relabel scope env).names = relab ε.kinds scope.names
    unfold relabel relab
    have ek : env.scope.kind = .function := e.kind
    have en : ∀ n, env.kindOf n = ε.kinds.lookup n := fun n => by unfold Env.kindOf; rw [e.names]
    simp only [ek, en, beq_self_eq_true, Bool.and_true]
  · have hy' : ((xs.zip is) ++ ε.vars.filter fun y => scope.names.lookup y.1 == some .free).lookup y = some j := hy
    rw [zc9] at hy'
    split at hy'
    · rename_i i ei
      cases hy'
      left
      exact ⟨zcN (c.xl y (zdL ei).1), zf8 c.xn c.isn c.len hd hr ei⟩
    · obtain ⟨hj, hp⟩ := za3 (p := fun z => scope.names.lookup z == some .free) hy'
      have hf : scope.names.lookup y = some .free := by simpa using hp
      right
      have hm := zaX hf
      have hl := (c.free y .free hm rfl).2
      rcases e.vars y j hj with ⟨h, _⟩ | ⟨_, _, q⟩
      · exact absurd h hl
      · refine ⟨zdl hf, ?_, ?_⟩
        · exact Option.isSome_iff_exists.mp (h2 y hm)
        · rw [zdk (c.apart y j hj)]
          exact q
end
section
variable {cx : XCx} {ε : Sc} {A : Around} {env : Env} {F F₀ : Addr → Prop} {s s₀ : Shared}
theorem Step.kept (ok : CxOk cx) (w₀ : Wd cx F₀ s₀) (x : Step cx F₀ s₀ F s) {wr : Addr → Prop} (hw : ∀ b, wr b → s₀.heap.get? b = none ∧ ¬ F b) {h' : Heap} (k : Nat)
    (hk : ∀ a o, ¬ wr a → s.heap.get? a = some o → h'.get? a = some o) : Step cx F₀ s₀ F { s with heap := h', toks := k } := by
  have nf : ∀ a, F a → ¬ wr a := fun a h hm => (hw a hm).2 h
  have nx : ∀ a, cx.X a → ¬ wr a := fun a h hm => by
    obtain ⟨o, e⟩ := w₀.xex a h
    rw [(hw a hm).1] at e; cases e
  have w := x.wd
  refine ⟨x.sub, x.new, fun a o e ax => hk a o (fun hm => ?_) (x.keep a o e ax), x.os, ⟨fun a o e ax => hk a o (nf a (w.f0 a o e ax)) (w.base a o e ax), ok.xi _ _ _ _ w.xi (fun _ h => h) (fun a o h e => hk a o (h.elim (nf a) (nx a)) e), w.gens, w.f0, fun a h => let ⟨o, e⟩ := w.lt a h; ⟨o, hk a o (nf a h) e⟩, w.nx, fun a h => let ⟨o, e⟩ := w.xex a h; ⟨o, hk a o (nx a h) e⟩⟩⟩
  rw [(hw a hm).1] at e; cases e
noncomputable def Tests (cx : XCx) (ε : Sc) (ifs : List Expr) (c : X) : Prop :=
  ∀ n cf A env F s ρ ad m cm, Here cx ε n cf A env F s ρ ad m cm → ∀ b, evT cf c ρ = some b → ∀ (Q : Bool → Shared → Prop) (E : Value → Shared → Prop), (∀ F' s', Step cx F s F' s' → Q b s') →
    wpAny (model cx.prog cx.w) A (forIn ifs true fun c r => if r = true then do let ok ← isTrue c env (eval c env); pure (ForInStep.yield ok) else pure (ForInStep.yield r)) Q E s
theorem zbX : Tests cx ε [] (.const (.bool true)) := by
  intro n cf A env F s ρ ad m cm H b hb Q E hQ
  have hb' : some true = some b := hb
  cases hb'
  rw [List.forIn_nil]
  exact wpAny_pure (hQ F s (Step.refl H.wd))
theorem zd6 {t : Expr} {c : X} (h : Sound cx ε t c) : Tests cx ε [t] c := by
  intro n cf A env F s ρ ad m cm H b hb Q E hQ
  rw [List.forIn_cons]
  simp only [if_true]
  refine wpAny_bind (wpAny_bind (h.tr n cf A env F s ρ ad m cm H b hb _ _ fun F' s' st => wpAny_pure ?_))
  show wpAny _ _ (forIn [] b _) _ _ _
  rw [List.forIn_nil]
  exact wpAny_pure (hQ F' s' st)
noncomputable def TargetC (cx : XCx) (tg : Expr) (xs : List Str) (bind : D → Option (List D)) : Prop :=
  ∀ (A : Around) (F : Addr → Prop) (s : Shared) (cenv : Env) (C : Addr) (m : Str → Option Value) (v : Value) (d : D) (ds : List D), CxOk cx → Wd cx F s → A.handled = none → cenv.locals = C → (∀ x ∈ xs, cenv.kindOf x = some .local) →
    (cenv.scope.kind == .class || (cenv.scope.kind == .module && cenv.locals != cenv.globals)) = false → s.heap.Ns C m → ¬ F C → Rep cx.T F s.heap v d → bind d = some ds → ∀ (Q : Unit → Shared → Prop) (E : Value → Shared → Prop),
    (∀ h' tk vs, (∀ a o, a ≠ C → s.heap.get? a = some o → h'.get? a = some o) → h'.Ns C (updL m xs vs) → RepL cx.T F h' vs ds → Q () { s with heap := h', toks := tk }) → wpAny (model cx.prog cx.w) A (assign tg cenv v) Q E s
noncomputable def one1 (d : D) : Option (List D) := some [d]
theorem zaM {x : Str} {p : Pos} : TargetC cx (.Name x p) [x] one1 := by
  intro A F s cenv C m v d ds ok w hh hC hk hp hn nf hv hb Q E hQ
  cases hb
  subst hC
  refine wpAny_assign_Name (wpAny_storeName_local (hk x List.mem_cons_self) hn (fun h' hn' sb => ?_) hp)
  have keep : ∀ a o, a ≠ cenv.locals → s.heap.get? a = some o → h'.get? a = some o := fun a o h e => (sb.2 a h).trans e
  exact hQ h' _ [v] keep hn' (.cons (hv.mono (fun _ h => h) fun a o f e => keep a o (fun e => nf (e ▸ f)) e) .nil)
end
theorem zgI {prog : Program} {w : World} {A : Around} {R : Result → Shared → Prop} {s : Shared} {elt target iter : Expr} {ifs : List Expr} {scope : Scope} {pos : Pos} {it acc : Value} {env : Env} (I : Nat → Shared → Prop)
    (turn : ∀ n s, I n s → wpAny (model prog w) A (pyNext it) (fun r s₁ => match r with
      | none => R (.ok .next) s₁
      | some v => wpAny (model prog w) A (letOwnedTupleGo target it v) (fun _ s₁' => wpAny (model prog w) A (assign target env v) (fun _ s₂ =>
          wpAny (model prog w) A (forIn ifs true fun c r => if r = true then do let ok ← isTrue c env (eval c env); pure (ForInStep.yield ok) else pure (ForInStep.yield r)) (fun ok s₃ =>
            if ok = true then wpAny (model prog w) A (eval elt env) (fun x s₄ =>
              wpAny (model prog w) A (call (.builtin "list.append") [acc, x]) (fun _ s₅ => ∃ m, m < n ∧ I m s₅) (notedBy (model prog w) A env fun e s' => R (.error e) s') s₄) (notedBy (model prog w) A env fun e s' => R (.error e) s') s₃
            else ∃ m, m < n ∧ I m s₃) (notedBy (model prog w) A env fun e s' => R (.error e) s') s₂) (notedBy (model prog w) A env fun e s' => R (.error e) s') s₁') (notedBy (model prog w) A env fun e s' => R (.error e) s') s₁) (notedBy (model prog w) A env fun e s' => R (.error e) s') s)
    (n : Nat) (h : I n s) :
    codeAny (model prog w) A (.compLoop (.ListComp elt [⟨target, iter, ifs, 0⟩] scope pos) 0 it acc env) R s := by
  refine codeAny_loop rfl I (fun n s hI => ?_) n h
  show wpAny _ A ((compTurn (.ListComp elt [⟨target, iter, ifs, 0⟩] scope pos) 0 it acc env).onRaise (fun x => do noteFrame x env; theTreesLotGoes x)) _ _ s
  refine wpAny_noted ?_
  rw [compTurn_list]
  refine wpAny_bind (wpAny_standAt (wpAny_bind (wpAny_mono (turn n s hI) (fun r s₁ h₁ => ?_) fun _ _ h' => h')))
  cases r with
  | none => exact wpAny_pure h₁
  | some v =>
    refine wpAny_bind (wpAny_mono h₁ (fun _ s₁' h₁' => ?_) fun _ _ h' => h')
    refine wpAny_bind (wpAny_mono h₁' (fun _ s₂ h₂ => wpAny_bind (wpAny_mono h₂ (fun ok s₃ h₃ => ?_) fun _ _ h' => h')) fun _ _ h' => h')
    cases ok with
    | false => exact wpAny_pure ⟨rfl, h₃⟩
    | true =>
      exact wpAny_bind (wpAny_bind (wpAny_mono h₃ (fun x s₄ h₄ => wpAny_bind (wpAny_mono h₄ (fun _ s₅ h₅ => wpAny_pure (wpAny_pure ⟨rfl, h₅⟩)) fun _ _ h' => h')) fun _ _ h' => h'))
noncomputable def turnC (cf : Nat → List D → Option D) (is : List Nat) (bind : D → Option (List D)) (c e : X) (ρ : List Slot) (d : D) : Option (Option D) :=
  match bind d with
  | some ds => turnD (ev cf c (setAll ρ is ds)) (ev cf e (setAll ρ is ds))
  | none => none
set_option genInjectivity false in
structure AccK (cx : XCx) (e elt tg iter : Expr) (ifs : List Expr) (mk : Sem Value) (aid : String) (P : Obj → List Value → List D → Prop) (good : List D → Prop) : Prop where
  cl : clausesOf e = [⟨tg, iter, ifs, 0⟩]
  start : ∀ {A : Around} {R : Result → Shared → Prop} {s : Shared} {it acc : Value} {env : Env}, codeAny (model cx.prog cx.w) A (.compLoop e 0 it acc env) R s →
    wpAny (model cx.prog cx.w) A (pyIter it) (fun it' s' => codeAny (model cx.prog cx.w) A (.compLoop e 0 it' acc env) R s') (notedBy (model cx.prog cx.w) A env fun x s' => R (.error x) s') s → codeAny (model cx.prog cx.w) A (.compStart e 0 it acc env) R s
  loop : ∀ {A : Around} {R : Result → Shared → Prop} {s : Shared} {it acc : Value} {env : Env} (I : Nat → Shared → Prop)
    (turn : ∀ n s, I n s → wpAny (model cx.prog cx.w) A (pyNext it) (fun r s₁ => match r with
      | none => R (.ok .next) s₁
      | some v => wpAny (model cx.prog cx.w) A (letOwnedTupleGo tg it v) (fun _ s₁' => wpAny (model cx.prog cx.w) A (assign tg env v) (fun _ s₂ =>
          wpAny (model cx.prog cx.w) A (forIn ifs true fun c r => if r = true then do let ok ← isTrue c env (eval c env); pure (ForInStep.yield ok) else pure (ForInStep.yield r)) (fun ok s₃ =>
            if ok = true then wpAny (model cx.prog cx.w) A (eval elt env) (fun x s₄ =>
              wpAny (model cx.prog cx.w) A (call (.builtin aid) [acc, x]) (fun _ s₅ => ∃ m, m < n ∧ I m s₅) (notedBy (model cx.prog cx.w) A env fun e s' => R (.error e) s') s₄) (notedBy (model cx.prog cx.w) A env fun e s' => R (.error e) s') s₃
            else ∃ m, m < n ∧ I m s₃) (notedBy (model cx.prog cx.w) A env fun e s' => R (.error e) s') s₂) (notedBy (model cx.prog cx.w) A env fun e s' => R (.error e) s') s₁') (notedBy (model cx.prog cx.w) A env fun e s' => R (.error e) s') s₁) (notedBy (model cx.prog cx.w) A env fun e s' => R (.error e) s') s)
    (n : Nat) (h : I n s), codeAny (model cx.prog cx.w) A (.compLoop e 0 it acc env) R s
  new : ∀ {A : Around} {Q : Value → Shared → Prop} {E : Value → Shared → Prop} {s : Shared}, (∀ o : Obj, P o [] [] → o.isFreed = false → Q (.ref s.heap.objs.size) { s with heap := s.heap.push o }) → wpAny (model cx.prog cx.w) A mk Q E s
  pre : ∀ {a b : List D}, good (a ++ b) → good a
  add : ∀ {A : Around} {Q : Value → Shared → Prop} {E : Value → Shared → Prop} {s : Shared} {F : Addr → Prop} {Da : Addr} {o : Obj} {ys : List Value} {ds : List D} {v : Value} {y : D}, s.heap.get? Da = some o → P o ys ds → ys.length ≤ lim → Rep cx.T F s.heap v y → good (ds ++ [y]) →
    (∀ h' tk o', Heap.SameBut Da s.heap h' → h'.get? Da = some o' → P o' (ys ++ [v]) (ds ++ [y]) → Q .none { s with heap := h', toks := tk }) → wpAny (model cx.prog cx.w) A (call (.builtin aid) [.ref Da, v]) Q E s
inductive CoreI (P : Obj → List Value → List D → Prop) (cx : XCx) (F : Addr → Prop) (s : Shared) (F1 : Addr → Prop) (h1 : Heap) (wr : List Addr) (Da C : Addr) (St : Nat → Heap → Prop) (items l : List D) (go : List D → Option (List D)) (k : Nat) (s' : Shared) : Prop
  | mk (j : Nat) (F' : Addr → Prop) (ys : List Value) (ds : List D) (kk : Obj) (m' : Str → Option Value) (hj : j ≤ items.length) (hk : k = items.length - j) (st : Step cx F s F' s') (hrep : ∀ v d, Rep cx.T F1 h1 v d → Rep cx.T F' s'.heap v d) (hF : ∀ a, F1 a → F' a) (hst : St j s'.heap)
    (hwr : ∀ b ∈ wr, ¬ F' b) (hnD : ¬ F' Da) (hnC : ¬ F' C) (hD : s'.heap.get? Da = some kk) (hP : P kk ys ds) (hys : RepL cx.T F' s'.heap ys ds) (hyl : ys.length ≤ j) (hns : s'.heap.Ns C m') (rest : List D) (hgo : go (items.drop j) = some rest) (hrest : l = ds ++ rest)
set_option genInjectivity false in
structure CoreL (cx : XCx) (F1 : Addr → Prop) (h1 : Heap) (wr : List Addr) (Da C : Addr) (St : Nat → Heap → Prop) (j : Nat) (ys : List Value) (ds : List D) (kk : Obj) (m' : Str → Option Value) (F4 : Addr → Prop) (h4 : Heap) : Prop where
  p1 : ∀ v d, Rep cx.T F1 h1 v d → Rep cx.T F4 h4 v d
  p2 : ∀ a, F1 a → F4 a
  p3 : St j h4
  p4 : ∀ b ∈ wr, ¬ F4 b
  p5 : ¬ F4 Da
  p6 : ¬ F4 C
  p7 : h4.get? Da = some kk
  p8 : RepL cx.T F4 h4 ys ds
  p9 : h4.Ns C m'
inductive CoreT (cf : Nat → List D → Option D) (c e : X) (ρ : List Slot) (go : Option (List D)) (rest : List D) : Prop
  | skip : truthR (ev cf c ρ) = some false → go = some rest → CoreT cf c e ρ go rest
  | take (r : R) (y : D) (ys : List D) : truthR (ev cf c ρ) = some true → ev cf e ρ = some [r] → r.fz = some y → go = some ys → rest = y :: ys → CoreT cf c e ρ go rest
theorem ziF {f : D → Option (Option D)} {d : D} {r rest : List D} (h : compGo f (d :: r) = some rest) : (f d = some none ∧ compGo f r = some rest) ∨ ∃ y ys, f d = some (some y) ∧ compGo f r = some ys ∧ rest = y :: ys := by
  unfold compGo at h
  cases e : f d with
  | none => rw [e] at h; cases h
  | some o =>
    rw [e] at h
    cases o with
    | none => exact .inl ⟨rfl, h⟩
    | some y =>
      cases e2 : compGo f r with
      | none => simp only [e2] at h; cases h
      | some ys => simp only [e2] at h; cases h; exact .inr ⟨y, ys, rfl, rfl, rfl⟩
theorem zf5 {c e : Option (List R)} {o : Option D} (h : turnD c e = some o) : (truthR c = some false ∧ o = none) ∨ ∃ r y, truthR c = some true ∧ e = some [r] ∧ r.fz = some y ∧ o = some y := by
  unfold turnD at h
  cases t : truthR c with
  | none => rw [t] at h; cases h
  | some b =>
    rw [t] at h
    cases b with
    | false => cases h; exact .inl ⟨rfl, rfl⟩
    | true =>
      rcases e with _ | _ | ⟨r, _ | ⟨_, _⟩⟩ <;> try (cases h; done)
      obtain ⟨y, e1, e2⟩ := Option.map_eq_some_iff.mp (show r.fz.map some = some o from h)
      exact .inr ⟨r, y, rfl, rfl, e1, e2.symm⟩
theorem zka {cf : Nat → List D → Option D} {is : List Nat} {bind : D → Option (List D)} {c e : X} {ρ : List Slot} {d : D} {r rest : List D} (h : compGo (turnC cf is bind c e ρ) (d :: r) = some rest) :
    ∃ dv, bind d = some dv ∧ CoreT cf c e (setAll ρ is dv) (compGo (turnC cf is bind c e ρ) r) rest := by
  have key : ∀ {o}, turnC cf is bind c e ρ d = some o → ∃ dv, bind d = some dv ∧ turnD (ev cf c (setAll ρ is dv)) (ev cf e (setAll ρ is dv)) = some o := by
    intro o h
    cases q : bind d with
    | none => simp only [turnC, q] at h; cases h
    | some dv => simp only [turnC, q] at h; exact ⟨dv, rfl, h⟩
  rcases ziF h with ⟨h1, h2⟩ | ⟨y, ys, h1, h2, h3⟩
  · obtain ⟨dv, e1, e2⟩ := key h1
    refine ⟨dv, e1, ?_⟩
    rcases zf5 e2 with ⟨t, _⟩ | ⟨_, _, _, _, _, q⟩
    · exact .skip t h2
    · cases q
  · obtain ⟨dv, e1, e2⟩ := key h1
    refine ⟨dv, e1, ?_⟩
    rcases zf5 e2 with ⟨_, q⟩ | ⟨r', y', t, a, b, q⟩
    · cases q
    · cases q; exact .take r' y ys t a b h2 h3
section
variable {cx : XCx} {ε : Sc}
theorem zfg {ex elt iter tg : Expr} {ifs : List Expr} {mk : Sem Value} {aid : String} {PA : Obj → List Value → List D → Prop} {good : List D → Prop} (K : AccK cx ex elt tg iter ifs mk aid PA good) {scope : Scope} {cpos : Pos} {xs : List Str} {is : List Nat} {bind : D → Option (List D)} {c e it : X}
    (hT : TargetC cx tg xs bind) (hb : ∀ d ds, bind d = some ds → ds.length = is.length) (hi : SoundI cx ε iter it) (ok : CompOK ε scope xs is) (hc : Tests cx (compSc ε scope (xs.zip is)) ifs c) (he : Sound cx (compSc ε scope (xs.zip is)) elt e)
    (hs : ∀ env x, foldedSetIterable iter env x = pure x)
    {n cf A env F s ρ ad m cm} (H : Here cx ε n cf A env F s ρ ad m cm) {items l : List D} (hit : evI cf it ρ = some items) (hl : compGo (turnC cf is bind c e ρ) items = some l)
    (hgood : good l) {use : Option (Value → Sem Unit)} {Q : Value → Shared → Prop} {E : Value → Shared → Prop}
    (hRR : ∀ Da C F' s' m' ob ys, Step cx F s F' s' → s.heap.get? Da = none → ¬ F' Da → ¬ cx.X Da → s'.heap.get? Da = some ob → PA ob ys l → RepL cx.T F' s'.heap ys l → ys.length ≤ lim → s'.heap.Ns C m' → s.heap.get? C = none → ¬ F' C → C ≠ Da → compPost (model cx.prog cx.w) A E use Q (.ref Da) C (.ok .next) s') :
    wpAny (model cx.prog cx.w) A (comprehension ex scope env cpos mk false (eval iter env) use) Q E s := by
  obtain ⟨cl, hclos, h1, h2⟩ := H.env.closure ok
  refine wpAny_comprehension_free K.cl (hs env) hclos ok.kind ok.names (hi n cf A env F s ρ ad m cm H items hit _ _ fun I F1 s1 fp wr P St J => ?_)
  refine K.new fun o0 hP0 hfr => ?_
  refine (wpAny_newFunctionEnv ok.nocell (by intro y hy; simp at hy) (fun h₁ hns₁ hsb₁ => ?_) ok.kind)
  dsimp only at hns₁ hsb₁ ⊢
  generalize hH2 : s1.heap.push o0 = H2 at hns₁ hsb₁ ⊢
  generalize hD : s1.heap.objs.size = Da
  generalize hCe : H2.objs.size = C at hns₁ hsb₁
  have hCD : C = Da + 1 := by rw [← hCe, ← hD, ← hH2, Heap.size_push]
  have hDC : C ≠ Da := by rw [hCD]; exact Nat.succ_ne_self Da
  have fr : ∀ a, Da ≤ a → s1.heap.get? a = none := fun a ha => by
    cases e : s1.heap.get? a with
    | none => rfl
    | some o' => exact absurd (hD ▸ Heap.lt_size e) (Nat.not_lt.mpr ha)
  have lt1 : ∀ b o, s1.heap.get? b = some o → b ≠ C ∧ b ≠ Da := fun b o e => ⟨Nat.ne_of_lt (by rw [hCD]; exact Nat.lt_succ_of_lt (hD ▸ Heap.lt_size e)), Nat.ne_of_lt (hD ▸ Heap.lt_size e)⟩
  have old : ∀ b o, s1.heap.get? b = some o → h₁.get? b = some o := fun b o e => hsb₁.extBut b o (lt1 b o e).1 (Heap.get?_push_of_some _ (hH2 ▸ Heap.get?_push_of_some _ e))
  have hacc : h₁.get? Da = some o0 := hsb₁.extBut _ _ hDC.symm (Heap.get?_push_of_some _ (by rw [← hH2, ← hD]; exact Heap.get?_push_size _ hfr))
  have frD := fr Da (Nat.le_refl _)
  have frC := fr C (by rw [hCD]; exact Nat.le_succ Da)
  have xD : ¬ cx.X Da := J.st.wd.newNotX frD
  have xC : ¬ cx.X C := J.st.wd.newNotX frC
  have frD0 : s.heap.get? Da = none := J.st.fresh xD frD
  have frC0 : s.heap.get? C = none := J.st.fresh xC frC
  have st1 : Step cx F s F1 { s1 with heap := h₁, toks := s1.toks + ([] : List (Str × Value)).length } := J.st.trans (Step.grown H.ok J.st.wd _ old)
  have loop : ∀ s₃ : Shared, s₃ = { s1 with heap := h₁, toks := s1.toks + ([] : List (Str × Value)).length } →
      codeAny (model cx.prog cx.w) A (.compLoop ex 0 (.ref I) (.ref Da) (compEnvC scope cl C env)) (compPost (model cx.prog cx.w) A E use Q (.ref Da) C) s₃ := by
    rintro s₃ rfl
    refine K.loop (CoreI PA cx F s F1 s1.heap wr Da C St items l (compGo (turnC cf is bind c e ρ))) (fun k s' hI => ?_) items.length
      ⟨0, F1, [], [], o0, _, Nat.zero_le _, rfl, st1, fun v d r => r.mono (fun _ h => h) fun a o _ e => old a o e, fun _ h => h, (J.W A H.bud.hd).frame _ _ _ J.s0 fun b _ o e => old b o e, fun b hb => (J.new b hb).2, J.st.wd.newNotF frD, J.st.wd.newNotF frC, hacc, hP0, .nil, Nat.le_refl _, hns₁, l, hl, rfl⟩
    obtain ⟨j, F', ys, ds, kk, m', hj, rfl, st', hrep, hF, hst, hwr, hnD, hnC, hD', hPo, hys, hyl, hns', rest, hgo, hrest⟩ := hI
    obtain ⟨o0, T0, gI, _, _⟩ := J.ty 0 _ J.s0
    have hwI : ∀ b ∈ wr, b ≠ C ∧ b ≠ Da := fun b hb => by rw [J.one b hb]; exact lt1 I _ gI
    have dC : C ∉ wr := fun h => (hwI C h).1 rfl
    have dD : Da ∉ wr := fun h => (hwI Da h).2 rfl
    have hwn : ∀ b, b ∈ wr → s.heap.get? b = none ∧ ¬ F' b := fun b hb => ⟨(J.new b hb).1, hwr b hb⟩
    have xwr : ∀ b ∈ wr, ¬ cx.X b := fun b hb h => by
      obtain ⟨o, e⟩ := H.wd.xex b h
      rw [(J.new b hb).1] at e; cases e
    rcases Nat.lt_or_ge j items.length with hlt | hge
    · refine (J.W A H.bud.hd).item j s' _ _ hlt hst fun v h' tk hP hst' hk => ?_
      have st2 := st'.kept H.ok H.wd (wr := (· ∈ wr)) hwn tk hk
      obtain ⟨d, hd, hr⟩ := J.item j v hP
      have hdrop : items.drop j = d :: items.drop (j + 1) := by
        have h1 : items[j]? = some items[j] := List.getElem?_eq_getElem hlt
        rw [h1] at hd
        cases hd
        exact List.drop_eq_getElem_cons hlt
      rw [hdrop] at hgo
      obtain ⟨dv, hdv, hturn⟩ := zka hgo
      obtain ⟨ob, T, g1, g2, g3⟩ := J.ty _ _ hst'
      have keepF : ∀ a o, F' a → s'.heap.get? a = some o → h'.get? a = some o := fun a o f e => hk a o (fun hm => hwr a hm f) e
      have hr2 : ∀ v d, Rep cx.T F1 s1.heap v d → Rep cx.T F' h' v d := fun v d hr => (hrep v d hr).mono (fun _ h => h) keepF
      refine zhO (s := { s' with heap := h', toks := tk }) g1 g2 g3 ?_
      have hnC' : h'.Ns C m' := hns'.at' fun o e => hk C o dC e
      refine hT A F' { s' with heap := h', toks := tk } (compEnvC scope cl C env) C m' v d dv H.ok st2.wd H.bud.hd rfl (fun x hx => lookup_relabel_local (ok.xl x hx)) (by simp [compEnvC, relabel, ok.kind]) hnC' hnC (hr2 v d hr) hdv _ _ fun h3 tk3 vs3 hk3 hns3 hr3 => ?_
      have st3 : Step cx F s F' { s' with heap := h3, toks := tk3 } := st2.kept H.ok H.wd (wr := (· = C)) (fun b hb => by subst hb; exact ⟨frC0, hnC⟩) tk3 hk3
      have keep3 : ∀ a o, F' a → s'.heap.get? a = some o → h3.get? a = some o := fun a o f e => hk3 a o (fun e => hnC (e ▸ f)) (keepF a o f e)
      have H3 : Here cx (compSc ε scope (xs.zip is)) n cf A (compEnvC scope cl C env) F' { s' with heap := h3, toks := tk3 } (setAll ρ is dv) ad (updL m' xs vs3) cm :=
        ⟨H.ok, H.calls, H.bud, st3.wd, (H.step st3).env.comp ok h1 h2 xC hns3 (hb d dv hdv) hr3⟩
      have hst3 : St (j + 1) h3 := (J.W A H.bud.hd).frame _ _ _ hst' fun b hb o e => hk3 b o (by
        rcases J.deps b hb with h | h
        · exact (hwI b h).1
        · exact fun e => hnC (e ▸ hF b h)) e
      have hD3 : h3.get? Da = some kk := hk3 Da _ hDC.symm (hk Da _ dD hD')
      have later : ∀ {F4 s4}, Step cx F' { s' with heap := h3, toks := tk3 } F4 s4 → CoreL cx F1 s1.heap wr Da C St (j + 1) ys ds kk (updL m' xs vs3) F4 s4.heap := by
        intro F4 s4 y
        have isC : ∃ o, h3.get? C = some o := by obtain ⟨o, _, _, e, _⟩ := hns3; exact ⟨o, e⟩
        obtain ⟨oC, eC⟩ := isC
        obtain ⟨ob3, T3, g13, _, _⟩ := J.ty _ _ hst3
        refine ⟨fun v d q => y.rep H3.wd ((hr2 v d q).mono (fun _ h => h) fun a o f e => hk3 a o (fun e => hnC (e ▸ f)) e), fun a h => y.sub a (hF a h), (J.W A H.bud.hd).frame _ _ _ hst3 fun b hb o e => ?_, fun b hb => ?_, y.notF hnD hD3, y.notF hnC eC, y.keep _ _ hD3 xD, y.repL H3.wd (hys.mono (fun _ h => h) keep3), hns3.at' fun o e => y.keep _ o e xC⟩
        · rcases J.deps b hb with h | h
          · exact y.keep b o e (xwr b h)
          · exact y.keep b o e (H3.wd.nx b (hF b h))
        · exact y.notF (hwr b hb) (by rw [J.one b hb]; exact g13)
      cases hturn with
      | skip htr hgo' =>
        refine hc n cf A _ F' _ _ ad _ cm H3 false htr _ _ fun F4 s4 st4 => ?_
        obtain ⟨p1, p2, p3, p4, p5, p6, p7, p8, p9⟩ := later st4
        rw [if_neg (by decide)]
        exact ⟨items.length - (j + 1), Nat.sub_lt_sub_left hlt (Nat.lt_succ_self j), j + 1, F4, ys, ds, kk, _, hlt, rfl, st3.trans st4, p1, p2, p3, p4, p5, p6, p7, hPo, p8, by omega, p9, rest, hgo', hrest⟩
      | take r y ys' htr e1 e2 e4 e5 =>
          refine hc n cf A _ F' _ _ ad _ cm H3 true htr _ _ fun F4 s4 st4 => ?_
          rw [if_pos rfl]
          have H4 := H3.step st4
          refine he.ev n cf A _ F4 s4 _ ad _ cm H4 r e1 _ _ fun v5 F5 s5 st5 q5 => ?_
          obtain ⟨F6, st6, _, r6⟩ := st5.fz H.ok st4.wd q5 e2
          obtain ⟨p1, p2, p3, p4, p5, p6, p7, p8, p9⟩ := later (st4.trans st6)
          have hlen : ys.length < lim := by have := J.lim; omega
          have hgd : good (ds ++ [y]) := K.pre (b := ys') (by rw [List.append_assoc]; have := hrest; rw [e5] at this; exact this ▸ hgood)
          refine K.add p7 hPo (Nat.le_of_lt hlen) r6 hgd fun h7 tk7 k7 sb7 hl7 hP7 => ?_
          have st7 : Step cx F s F6 { s5 with heap := h7, toks := tk7 } := (st3.trans (st4.trans st6)).kept H.ok H.wd (wr := (· = Da)) (fun b hb => by subst hb; exact ⟨frD0, p5⟩) tk7 fun a o h e => (sb7.2 a h).trans e
          have keep7 : ∀ a o, F6 a → s5.heap.get? a = some o → h7.get? a = some o := fun a o f e => (sb7.2 a fun e => p5 (e ▸ f)).trans e
          refine ⟨items.length - (j + 1), Nat.sub_lt_sub_left hlt (Nat.lt_succ_self j), j + 1, F6, ys ++ [v5], ds ++ [y], k7, _, hlt, rfl, st7, fun v d q => (p1 v d q).mono (fun _ h => h) keep7, p2, (J.W A H.bud.hd).frame _ _ _ p3 fun b hb o e => (sb7.2 b ?_).trans e, p4, p5, p6, hl7, hP7, (p8.append (.cons r6 .nil)).mono (fun _ h => h) keep7, by rw [List.length_append]; simp; omega, p9.sameBut sb7 hDC, ys', e4, by rw [hrest, e5]; simp⟩
          rcases J.deps b hb with h | h
          · exact (hwI b h).2
          · exact fun e => p5 (e ▸ p2 b h)
    · have ej : j = items.length := Nat.le_antisymm (by assumption) (by assumption)
      subst ej
      rw [List.drop_length] at hgo
      cases hgo
      refine (J.W A H.bud.hd).done s' _ _ hst fun h' tk hk => ?_
      have st2 := st'.kept H.ok H.wd (wr := (· ∈ wr)) hwn tk hk
      have keepF : ∀ a o, F' a → s'.heap.get? a = some o → h'.get? a = some o := fun a o f e => hk a o (fun hm => hwr a hm f) e
      rw [List.append_nil] at hrest
      subst hrest
      exact hRR Da C F' _ m' kk ys st2 frD0 hnD xD (hk Da _ dD hD') hPo (hys.mono (fun _ h => h) keepF) (by have := J.lim; omega) (hns'.at' fun o e => hk C o dC e) frC0 hnC hDC
  exact K.start (loop _ rfl) ((J.W A H.bud.hd).self 0 _ _ _ ((J.W A H.bud.hd).frame _ _ _ J.s0 fun b _ o e => old b o e) (loop _ rfl))
noncomputable def LsP (o : Obj) (ys : List Value) (_ : List D) : Prop := ∃ k, o = lobj ys.toArray k
theorem accList {elt tg iter : Expr} {ifs : List Expr} {scope : Scope} {pos : Pos} : AccK cx (.ListComp elt [⟨tg, iter, ifs, 0⟩] scope pos) elt tg iter ifs (newList []) "list.append" LsP (fun _ => True) where
  cl := rfl
  start := fun h0 h => codeAny_compStart_list h0 h
  loop := fun I turn n h => zgI I turn n h
  new := fun h => wpAny_newObj_type (h _ ⟨0, rfl⟩ rfl)
  pre := fun _ => trivial
  add := fun {A Q E s F Da o ys ds v y} g hP z r _ h => by
    obtain ⟨k, rfl⟩ := hP
    refine wpAny_list_append_plain ⟨k, g⟩ (fun h7 hl7 sb7 => ?_) (by rw [List.size_toArray]; exact zaA z)
    obtain ⟨k7, hl7⟩ := hl7
    have e7 : ys.toArray.push v = (ys ++ [v]).toArray := by simp
    rw [e7] at hl7
    exact h h7 s.toks _ sb7 hl7 ⟨k7, rfl⟩
theorem zgG {elt iter tg : Expr} {ifs : List Expr} {scope : Scope} {pos cpos : Pos} {xs : List Str} {is : List Nat} {bind : D → Option (List D)} {c e it : X}
    (hT : TargetC cx tg xs bind) (hb : ∀ d ds, bind d = some ds → ds.length = is.length) (hi : SoundI cx ε iter it) (ok : CompOK ε scope xs is) (hc : Tests cx (compSc ε scope (xs.zip is)) ifs c) (he : Sound cx (compSc ε scope (xs.zip is)) elt e)
    (hs : ∀ env x, foldedSetIterable iter env x = pure x)
    {n cf A env F s ρ ad m cm} (H : Here cx ε n cf A env F s ρ ad m cm) {items l : List D} (hit : evI cf it ρ = some items) (hl : compGo (turnC cf is bind c e ρ) items = some l)
    {use : Option (Value → Sem Unit)} {Q : Value → Shared → Prop} {E : Value → Shared → Prop}
    (hRR : ∀ Da C F' s' m', Step cx F s F' s' → RepR cx F' s.heap s'.heap (.ref Da) (.own l) → s'.heap.Ns C m' → s.heap.get? C = none → ¬ F' C → C ≠ Da → compPost (model cx.prog cx.w) A E use Q (.ref Da) C (.ok .next) s') :
    wpAny (model cx.prog cx.w) A (comprehension (.ListComp elt [⟨tg, iter, ifs, 0⟩] scope pos) scope env cpos (newList []) false (eval iter env) use) Q E s :=
  zfg accList hT hb hi ok hc he hs H hit hl trivial fun Da C F' s' m' ob ys st f0 nf nx g hP q z hn c1 c2 c3 => by
    obtain ⟨k, rfl⟩ := hP
    exact hRR Da C F' s' m' st (.own f0 nf nx g z q) hn c1 c2 c3
end
section
variable {cx : XCx} {ε : Sc}
theorem ziE {elt iter tg : Expr} {ifs : List Expr} {scope : Scope} {pos : Pos} {xs : List Str} {is : List Nat} {bind : D → Option (List D)} {c e it : X}
    (hT : TargetC cx tg xs bind) (hb : ∀ d ds, bind d = some ds → ds.length = is.length) (hi : SoundI cx ε iter it) (ok : CompOK ε scope xs is) (hc : Tests cx (compSc ε scope (xs.zip is)) ifs c) (he : Sound cx (compSc ε scope (xs.zip is)) elt e)
    (hs : ∀ env x, foldedSetIterable iter env x = pure x)
    {n cf A env F s ρ ad m cm} (H : Here cx ε n cf A env F s ρ ad m cm) {items l : List D} (hit : evI cf it ρ = some items) (hl : compGo (turnC cf is bind c e ρ) items = some l)
    {Q : Value → Shared → Prop} {E : Value → Shared → Prop} (hQ : Post cx F s (.own l) Q) :
    wpAny (model cx.prog cx.w) A (eval (.ListComp elt [⟨tg, iter, ifs, 0⟩] scope pos) env) Q E s := by
  rw [eval_ListComp]
  refine zgG (use := none) hT hb hi ok hc he hs H hit hl fun Da C F' s' m' st q hn frC nC hne => ?_
  refine ⟨m', hn, fun h'' sb => ?_⟩
  have st2 : Step cx F s F' { s' with heap := h'' } := st.kept H.ok H.wd (wr := (· = C)) (fun b hb => by subst hb; exact ⟨frC, nC⟩) s'.toks fun a o h e => (sb.2 a h).trans e
  refine hQ _ F' _ st2 ?_
  cases q with
  | own lo nf nx g z q => exact .own lo nf nx ((sb.2 Da hne.symm).trans g) z (q.mono (fun _ h => h) fun a o f e => (sb.2 a fun e => nC (e ▸ f)).trans e)
theorem zj5 {cf : Nat → List D → Option D} {i : Nat} {it c e : X} {ρ : List Slot} {r : R} (h : ev cf (.comp i it c e) ρ = some [r]) : ∃ items l, evI cf it ρ = some items ∧ compGo (turnC cf [i] one1 c e ρ) items = some l ∧ r = .own l := by
  replace h := (zbj _).symm.trans h
  split at h
  · rename_i items e1
    obtain ⟨l, e2, e3⟩ := Option.map_eq_some_iff.mp h
    cases e3
    refine ⟨items, l, by unfold evI; rw [e1], e2, rfl⟩
  · cases h
set_option genInjectivity false in
structure CompX (cx : XCx) (ε : Sc) (elt iter tg : Expr) (ifs : List Expr) (scope : Scope) (xs : List Str) (is : List Nat) (bind : D → Option (List D)) (it c e : X) : Prop where
  hT : TargetC cx tg xs bind
  hb : ∀ d ds, bind d = some ds → ds.length = is.length
  hi : SoundI cx ε iter it
  ok : CompOK ε scope xs is
  hc : Tests cx (compSc ε scope (xs.zip is)) ifs c
  he : Sound cx (compSc ε scope (xs.zip is)) elt e
  hs : ∀ env x, foldedSetIterable iter env x = pure x
theorem zdj {elt iter tg : Expr} {ifs : List Expr} {scope : Scope} {pos : Pos} {x : Str} {i : Nat} {it c e : X} (h : CompX cx ε elt iter tg ifs scope [x] [i] one1 it c e) :
    Sound cx ε (.ListComp elt [⟨tg, iter, ifs, 0⟩] scope pos) (.comp i it c e) := by
  refine Sound.ofE ?_ fun _ => rfl
  intro n cf A env F s ρ ad m cm H r hr Q E hQ
  obtain ⟨items, l, e1, e2, rfl⟩ := zj5 hr
  exact ziE h.hT h.hb h.hi h.ok h.hc h.he h.hs H e1 e2 hQ
theorem zkc {elt iter tg : Expr} {ifs : List Expr} {scope : Scope} {pos spos py : Pos} {xs : List Str} {is : List Nat} {bind : D → Option (List D)} {c e it : X} {y : Str} {j : Nat} (h : CompX cx ε elt iter tg ifs scope xs is bind it c e)
    (hy : ε.vars.lookup y = some j) (hf : ε.kinds.lookup y ≠ some .free) (hs : ∀ env : Env, env.scope.kind = .function → env.scope.names = ε.kinds → swapsWith (.ListComp elt [⟨tg, iter, ifs, 0⟩] scope pos) (some (.Name y py)) spos.line env = pure true)
    {n cf A env F s ρ ad m cm} (H : HereS cx ε n cf A env F s ρ ad m cm) {items l : List D} (hit : evI cf it ρ = some items) (hl : compGo (turnC cf is bind c e ρ) items = some l)
    (own : Bool) (hna : own = true → noApp j ρ = true) {Q : Flow → Shared → Prop} {E : Value → Shared → Prop} (hQ : PostS cx ε env F s ρ ad (ρ.set j (if own then .own l else .val (.list l))) .next Q) :
    wpAny (model cx.prog cx.w) A (exec (.Assign [.Name y py] (.ListComp elt [⟨tg, iter, ifs, 0⟩] scope pos) spos) env) Q E s := by
  rw [exec_Assign_Name_used _ _ _ _ (hs env H.frm.en.kind H.frm.en.names)]
  refine wpAny_bind (wpAny_standAt (wpAny_bind ?_))
  show wpAny _ A (do let _ ← comprehension (.ListComp elt [⟨tg, iter, ifs, 0⟩] scope pos) scope env _ (newList []) false (eval iter env) (some (assign (.Name y py) env))) _ _ s
  refine wpAny_bind (zgG (use := some (assign (.Name y py) env)) h.hT h.hb h.hi h.ok h.hc h.he h.hs H.here hit hl fun Da C F' s' m' st q hn frC nC hne => ?_)
  show wpAny _ A (assign (.Name y py) env (.ref Da)) _ _ _
  refine wpAny_assign_Name ?_
  have nm : ∀ {a}, s.heap.get? a = none → ¬ Mut env ρ ad a := fun e hm => by
    obtain ⟨o, e'⟩ := H.frm.isSome hm
    rw [e] at e'; cases e'
  cases q with
  | @own _ vs k _ lo nf nx g z q =>
  have fin : ∀ {F'' : Addr → Prop} {sl : Slot} {ad' : Nat → Addr} {s'' : Shared} {m'' cm'' : Str → Option Value}, sl = (if own then Slot.own l else .val (.list l)) → (∀ l', sl = .own l' → ad' j = Da) → (∀ i, i ≠ j → ad' i = ad i) → StepS cx env F s ρ ad F'' s'' (ρ.set j sl) ad' → Frm cx ε env F'' s'' (ρ.set j sl) ad' m'' cm'' → ¬ F'' C → s''.heap.Ns C m' →
      ∃ m, s''.heap.Ns C m ∧ ∀ h', Heap.SameBut C s''.heap h' → wpAny (model cx.prog cx.w) A (pure PUnit.unit) (fun _ s' => wpAny (model cx.prog cx.w) A (pure Flow.next) Q E s') E { s'' with heap := h' } := by
    intro F'' sl ad' s'' m'' cm'' hsl hDa had x f nF hn'
    refine ⟨m', hn', fun h' sb => wpAny_pure (wpAny_pure ?_)⟩
    have nM : ¬ Mut env (ρ.set j sl) ad' C := fun hm => by
      rcases hm with h | h | ⟨i, l', hi, rfl⟩
      · exact nm frC (.inl h)
      · exact nm frC (.inr (.inl h))
      · rw [zaW] at hi
        by_cases e : i = j
        · subst e
          rw [if_pos rfl] at hi
          split at hi
          · exact hne (hDa l' hi)
          · cases hi
        · rw [if_neg e] at hi
          rw [had i e] at frC
          exact nm frC (.inr (.inr ⟨i, l', hi, rfl⟩))
    obtain ⟨x2, f2⟩ := x.kept H.ok H.wd f (wr := [C]) (fun b hb => by simp only [List.mem_cons, List.not_mem_nil, or_false] at hb; subst hb; exact ⟨frC, nF, nM⟩) (h' := h') s''.toks (fun a o hm e => (sb.2 a (by simpa using hm)).trans e)
    rw [hsl] at x2 f2
    exact hQ .next F'' _ ad' m'' cm'' x2 f2 .next
  cases own with
  | false =>
    have st2 := st.freeze H.ok H.wd lo g
    refine zcw H st2 hy hf (sl := .val (.list l)) (ad' := ad) (fun _ _ => rfl) (.inl rfl) (fun h' hk => .val (.list (.inr rfl) (hk Da _ (.inl (.inr rfl)) g) z (q.mono (fun _ h => .inl h) fun a o f e => hk a o (.inl (.inl f)) e))) (fun _ e => nomatch e) fun s'' m'' cm'' hk x f => ?_
    exact fin (sl := .val (.list l)) (by rw [if_neg (by decide)]) (fun _ e => nomatch e) (fun _ _ => rfl) x f (fun h => h.elim nC hne) (hn.at' fun o e => hk C o (nm frC) e)
  | true =>
    refine zcw H st hy hf (sl := .own l) (ad' := fun i => if i = j then Da else ad i) (fun i hi => if_neg hi) (.inr (zhE (hna rfl))) (fun h' hk => ?_) (fun l' _ => ?_) fun s'' m'' cm'' hk x f => ?_
    · have : SlotRep cx F' h' (fun i => if i = j then Da else ad i) j (some (.ref ((fun i => if i = j then Da else ad i) j))) (.own l) := by
        refine .own (vs := vs) (n := k) ?_ ?_ ?_ z (q.mono (fun _ h => h) fun b o f e => hk b o (.inl f) e) <;> simp only [if_true]
        · exact nf
        · exact nx
        · exact hk Da _ (.inr (nm lo)) g
      simpa using this
    · simp only [if_true]
      exact ⟨lo, nf, nx, _, _, g⟩
    · exact fin (sl := .own l) (ad' := fun i => if i = j then Da else ad i) (by rw [if_pos rfl]) (fun _ _ => if_pos rfl) (fun i hi => if_neg hi) x f nC (hn.at' fun o e => hk C o (nm frC) e)
theorem ev1_own {cf : Nat → List D → Option D} {x : X} {ρ : List Slot} {d : D} (h : ev1 cf x ρ = some d) {P : List D → Prop} (hp : ∀ r, ev cf x ρ = some [r] → ∃ l, r = .own l ∧ P l) : ∃ l, d = .list l ∧ P l := by
  obtain ⟨r, e1, e2⟩ := zhm h
  obtain ⟨l, rfl, p⟩ := hp r e1
  cases e2
  exact ⟨l, rfl, p⟩
theorem zbc {elt iter tg : Expr} {ifs : List Expr} {scope : Scope} {pos spos py : Pos} {x y : Str} {i j : Nat} {it c e : X} (h : CompX cx ε elt iter tg ifs scope [x] [i] one1 it c e)
    (hy : ε.vars.lookup y = some j) (hf : ε.kinds.lookup y ≠ some .free) (hs : ∀ env : Env, env.scope.kind = .function → env.scope.names = ε.kinds → swapsWith (.ListComp elt [⟨tg, iter, ifs, 0⟩] scope pos) (some (.Name y py)) spos.line env = pure true) :
    SoundS cx ε (.Assign [.Name y py] (.ListComp elt [⟨tg, iter, ifs, 0⟩] scope pos) spos) (.assign j (.comp i it c e)) := by
  intro n cf A env F s ρ ad m cm H ρ' o he Q E hQ
  replace he := (zcE cf).symm.trans he
  obtain ⟨d, hd, e'⟩ := Option.map_eq_some_iff.mp he
  cases e'
  obtain ⟨l, rfl, items, e1, e2⟩ := ev1_own (P := fun l => ∃ items, evI cf it ρ = some items ∧ compGo (turnC cf [i] one1 c e ρ) items = some l) hd fun r hr => by
    obtain ⟨items, l, e1, e2, e3⟩ := zj5 hr
    exact ⟨l, e3, items, e1, e2⟩
  exact zkc h hy hf hs H e1 e2 false (fun e => nomatch e) (by rw [if_neg (by decide)]; exact hQ)
end
theorem zgK {kindOf : Str → Option NameKind} {x : Str} : ∀ {ps : List Str} {vs : List Value} {m : Str → Option Value}, x ∉ ps → bindL kindOf (ps.zip vs) m x = m x
  | [], _, _, _ => rfl
  | _ :: _, [], _, _ => rfl
  | n :: ps, v :: vs, m, h => by
    rw [List.zip_cons_cons]
    unfold bindL
    rw [zgK fun h' => h (List.mem_cons_of_mem _ h')]
    split
    · exact if_neg fun (e : x = n) => h (by rw [e]; exact List.mem_cons_self)
    · rfl
theorem zfW {kindOf : Str → Option NameKind} {x : Str} {v : Value} (hk : kindOf x = some .local) : ∀ {ps : List Str} {vs : List Value} {m : Str → Option Value} {k : Nat}, ps.Nodup → ps[k]? = some x → vs[k]? = some v → bindL kindOf (ps.zip vs) m x = some v
  | [], _, _, _, _, h, _ => nomatch h
  | _ :: _, [], _, _, _, _, h => nomatch h
  | n :: ps, v' :: vs, m, k, hn, h1, h2 => by
    obtain ⟨n1, hn'⟩ := List.nodup_cons.mp hn
    rw [List.zip_cons_cons]
    unfold bindL
    cases k with
    | zero =>
      simp only [List.getElem?_cons_zero, Option.some.injEq] at h1 h2
      subst h1; subst h2
      rw [zgK n1, if_pos hk]
      exact if_pos rfl
    | succ k =>
      simp only [List.getElem?_cons_succ] at h1 h2
      exact zfW hk hn' h1 h2
theorem zgL {kindOf : Str → Option NameKind} {x : Str} : ∀ {ps : List Str} {vs : List Value} {m : Str → Option Value}, x ∉ ps → bindC kindOf (ps.zip vs) m x = m x
  | [], _, _, _ => rfl
  | _ :: _, [], _, _ => rfl
  | n :: ps, v :: vs, m, h => by
    rw [List.zip_cons_cons]
    unfold bindC
    rw [zgL fun h' => h (List.mem_cons_of_mem _ h')]
    split
    · rfl
    · exact if_neg fun (e : x = n) => h (by rw [e]; exact List.mem_cons_self)
theorem zfX {kindOf : Str → Option NameKind} {x : Str} {v : Value} (hk : kindOf x ≠ some .local) : ∀ {ps : List Str} {vs : List Value} {m : Str → Option Value} {k : Nat}, ps.Nodup → ps[k]? = some x → vs[k]? = some v → bindC kindOf (ps.zip vs) m x = some v
  | [], _, _, _, _, h, _ => nomatch h
  | _ :: _, [], _, _, _, _, h => nomatch h
  | n :: ps, v' :: vs, m, k, hn, h1, h2 => by
    obtain ⟨n1, hn'⟩ := List.nodup_cons.mp hn
    rw [List.zip_cons_cons]
    unfold bindC
    cases k with
    | zero =>
      simp only [List.getElem?_cons_zero, Option.some.injEq] at h1 h2
      subst h1; subst h2
      rw [zgL n1, if_neg hk]
      exact if_pos rfl
    | succ k =>
      simp only [List.getElem?_cons_succ] at h1 h2
      exact zfX hk hn' h1 h2
theorem za6 {x : Str} : ∀ {names : List (Str × NameKind)} {n : Nat} {acc : List (Str × Addr)}, (acc.lookup x).isSome ∨ (x, NameKind.cell) ∈ names → ((cellsFrom n names acc).lookup x).isSome
  | [], n, acc, h => by
    unfold cellsFrom
    rcases h with h | h
    · exact h
    · cases h
  | (y, k) :: r, n, acc, h => by
    unfold cellsFrom
    split
    · rename_i hk
      refine za6 ?_
      rw [List.lookup_cons]
      cases hx : x == y with
      | true => exact .inl rfl
      | false =>
        rcases h with h | h
        · exact .inl h
        · rcases List.mem_cons.mp h with e | h
          · cases e; simp at hx
          · exact .inr h
    · rename_i hk
      refine za6 (h.imp id fun h => ?_)
      rcases List.mem_cons.mp h with e | h
      · cases e; simp at hk
      · exact h
noncomputable def boundTo (fn : Fn) (args : List D) : Option (List D) :=
  if fn.va then (if fn.np ≤ args.length ∧ args.length ≤ lim then some (args.take fn.np ++ [.tup (args.drop fn.np)]) else none)
  else if args.length = fn.np then some args else none
noncomputable def BindOK (cx : XCx) (fd : FuncData) (fn : Fn) (ps : List Str) : Prop :=
  ∀ A F s vs args ds, CxOk cx → Wd cx F s → RepL cx.T F s.heap vs args → boundTo fn args = some ds → ∀ (Q : List (Str × Value) → Shared → Prop) (E : Value → Shared → Prop),
    (∀ F' s' vs', Step cx F s F' s' → RepL cx.T F' s'.heap vs' ds → Q (ps.zip vs') s') → wpAny (model cx.prog cx.w) A (bindArgs fd ⟨vs, []⟩) Q E s
set_option genInjectivity false in
structure FnIs (cx : XCx) (ε : Sc) (i : Nat) (fn : Fn) (fd : FuncData) (body : List Stmt) (ps : List Str) : Prop where
  obj : ∃ o, cx.h0.get? (cx.fa i) = some o ∧ o.data = .func fd
  nx : ¬ cx.X (cx.fa i)
  code : ∃ c, fd.code = .ref c ∧ ¬ cx.X c ∧ cx.h0.CodeRec (.ref c) fd.qualname
  body : fd.body = .stmts body
  codeAt : ∀ c q, ε.code = some (c, q) → fd.code = .ref c ∧ fd.qualname ++ ".<locals>." = q
  clo : fd.closure = []
  glob : fd.globals = mainGlobals
  blt : fd.builtins = builtinsNs
  co : fd.scope.isCoroutine = false
  gen : fd.scope.isGenerator = false
  kind : fd.scope.kind = .function
  names : fd.scope.names = ε.kinds
  bind : BindOK cx fd fn ps
  len : ∀ args ds, boundTo fn args = some ds → ds.length = ps.length
  nodup : ps.Nodup
  pv : ∀ (k : Nat) x, ps[k]? = some x → ε.vars.lookup x = some k
  vk : ∀ x j, ε.vars.lookup x = some j → ε.kinds.lookup x = some .local ∨ ε.kinds.lookup x = some .cell
  sc : ScOK ε
theorem zez {fn : Fn} {args : List D} {ρ : List Slot} (h : bindD fn args = some ρ) : ∃ ds k, boundTo fn args = some ds ∧ ρ = ds.map .val ++ List.replicate k .unset := by
  unfold bindD at h
  unfold boundTo
  split at h
  · split at h <;> cases h
    rename_i h1 h2
    rw [if_pos h1, if_pos h2]
    exact ⟨_, fn.ns - fn.np - 1, rfl, by simp⟩
  · split at h <;> cases h
    rename_i h1 h2
    rw [if_neg h1, if_pos h2]
    exact ⟨_, _, rfl, rfl⟩
theorem zbR {ds : List D} {k j : Nat} : slotAt (ds.map .val ++ List.replicate k .unset) j = (match ds[j]? with | some d => .val d | none => .unset) := by
  unfold slotAt
  rw [List.getD_eq_getElem?_getD, List.getElem?_append]
  split
  · rename_i h
    rw [List.getElem?_map]
    rw [List.length_map] at h
    rw [List.getElem?_eq_getElem h]
    rfl
  · rename_i h
    rw [List.length_map] at h
    rw [List.getElem?_eq_none (Nat.le_of_not_lt h), List.getElem?_replicate]
    split <;> rfl
section
variable {cx : XCx}
theorem zlC {d n : Nat} (h : d + (n + 1) < 890) : d + 1 + n < 890 := by omega
theorem zlA {u n : Nat} (h : u + 10 * (n + 1) + 200 < 9900) : u + 3 + 10 * n + 200 < 9900 := by omega
theorem zlB {u n : Nat} (h : u + 10 * (n + 1) + 200 < 9900) : u + 3 + 10 * n + 207 < 9900 := by omega
theorem zkg {ε : Sc} {i : Nat} {fn : Fn} {fd : FuncData} {body : List Stmt} {ps : List Str} (X : FnIs cx ε i fn fd body ps) (hs : SoundSs cx ε body fn.body) (ok : CxOk cx) {n : Nat} {cf : Nat → List D → Option D} (hc : CallOK cx n cf)
    {args : List D} {ρ ρ' : List Slot} {o : Out} {d : D} (hb : bindD fn args = some ρ) (he : ex cf fn.body ρ = some (ρ', o)) (hd : o = .ret d ∨ (o = .next ∧ d = .none))
    {A : Around} {F : Addr → Prop} {s : Shared} {vs : List Value} (bud : Bud (n + 1) A) (w : Wd cx F s) (q : RepL cx.T F s.heap vs args) {Rs : Result → Shared → Prop}
    (hR : ∀ v F' s', Step cx F s F' s' → Rep cx.T F' s'.heap v d → Rs (.ok (.ret v)) s') : codeAny (model cx.prog cx.w) A (.call (.ref (cx.fa i)) ⟨vs, []⟩) Rs s := by
  obtain ⟨ob, g, hfd⟩ := X.obj
  obtain ⟨c, hcode, ncx, hcd⟩ := X.code
  obtain ⟨ds, kk, hbd, rfl⟩ := zez hb
  have hroom : A.depth < recursionLimit := Nat.lt_of_le_of_lt (Nat.le_add_right _ _) (Nat.lt_trans bud.dp (by decide))
  refine codeAny_call_function hroom (w.base _ _ g X.nx) hfd X.co X.gen X.body (by rw [hcode]; exact hcd.at fun o e => w.base _ o e ncx) ?_
  refine X.bind A.in1 F s vs args ds ok w q hbd _ _ fun F₁ s₁ vs' st₁ q₁ => ?_
  rw [X.clo]
  have hlen : ds.length = ps.length := X.len _ _ hbd
  have hvl : vs'.length = ps.length := q₁.length.trans hlen
  have kindOf : ∀ x, (callEnvC fd s₁.heap.objs.size (cx.fa i)).kindOf x = ε.kinds.lookup x := fun x => by show fd.scope.names.lookup x = _; rw [X.names]
  have inps : ∀ x ∈ ps, ∃ k, ps[k]? = some x := fun x hx => by
    obtain ⟨k, hk, e⟩ := List.mem_iff_getElem.mp hx
    exact ⟨k, by rw [List.getElem?_eq_getElem hk, e]⟩
  have hkind : ∀ x ∈ ps.zip vs', fd.scope.names.lookup x.1 = some .local ∨ (fd.scope.names.lookup x.1 = some .cell ∧ ((cellsFrom (s₁.heap.objs.size + 1) fd.scope.names []).lookup x.1).isSome = true) := by
    intro x hx
    obtain ⟨k, hk⟩ := inps x.1 (List.of_mem_zip hx).1
    rw [X.names]
    rcases X.vk x.1 k (X.pv k x.1 hk) with h | h
    · exact .inl h
    · exact .inr ⟨h, za6 (.inr (zaX h))⟩
  refine wpAny_newFunctionEnv_cells X.kind hkind fun env hen s₂ ic => ?_
  have hen' : env = callEnvC fd s₁.heap.objs.size (cx.fa i) := hen
  subst hen'
  obtain ⟨h₂, tk₂, rfl⟩ := ic.toInCall.same
  have keep₂ := ic.toInCall.keep
  have st₂ : Step cx F₁ s₁ F₁ { s₁ with heap := h₂, toks := tk₂ } := Step.grown ok st₁.wd tk₂ keep₂
  have w₂ := st₂.wd
  refine ⟨w₂.lim ok, codeAny_func ?_⟩
  let E₀ : Env := callEnvC fd s₁.heap.objs.size (cx.fa i)
  let m₀ : Str → Option Value := bindL E₀.kindOf (ps.zip vs') fun _ => none
  let cm₀ : Str → Option Value := bindC E₀.kindOf (ps.zip vs') fun _ => none
  have frL : s₁.heap.get? s₁.heap.objs.size = none := zaz _
  have frC : ∀ n c, E₀.cells.lookup n = some c → s₁.heap.get? c = none ∧ c ≠ s₁.heap.objs.size := fun n c hc => by
    have hlt : s₁.heap.objs.size < c := ic.above n c (mem_of_lookup hc)
    refine ⟨?_, Nat.ne_of_gt hlt⟩
    cases e : s₁.heap.get? c with
    | none => rfl
    | some o => exact absurd (Heap.lt_size e) (Nat.not_lt.mpr (Nat.le_of_lt hlt))
  have noOwn : ∀ j l, slotAt (ds.map Slot.val ++ List.replicate kk .unset) j ≠ .own l := fun j l e => by
    rw [zbR] at e
    split at e <;> cases e
  have fresh₀ : ∀ a, Mut E₀ (ds.map Slot.val ++ List.replicate kk .unset) (fun _ => 0) a → s₁.heap.get? a = none := fun a h => by
    rcases h with rfl | ⟨n, hn⟩ | ⟨j, l, hj, _⟩
    · exact frL
    · exact (frC n a hn).1
    · exact absurd hj (noOwn j l)
  have slots : ∀ x j, ε.vars.lookup x = some j → (ε.kinds.lookup x = some .local ∧ SlotRep cx F₁ h₂ (fun _ => 0) j (m₀ x) (slotAt (ds.map Slot.val ++ List.replicate kk .unset) j)) ∨
      ((ε.kinds.lookup x = some .cell ∨ ε.kinds.lookup x = some .free) ∧ (∃ c, E₀.cells.lookup x = some c) ∧ SlotRep cx F₁ h₂ (fun _ => 0) j (cm₀ x) (slotAt (ds.map Slot.val ++ List.replicate kk .unset) j)) := by
    intro x j hx
    have look : ∀ dj, ds[j]? = some dj → ps[j]? = some x ∧ ∃ v, vs'[j]? = some v ∧ Rep cx.T F₁ h₂ v dj := fun dj hj => by
      obtain ⟨v, hv, r⟩ := q₁.get hj
      have hlt : j < ps.length := by rw [← hlen]; exact (List.getElem?_eq_some_iff.mp hj).1
      have hp : ps[j]? = some ps[j] := List.getElem?_eq_getElem hlt
      have := X.sc.inj x ps[j] j hx (X.pv j _ hp)
      exact ⟨by rw [hp, this], v, hv, st₂.rep st₁.wd r⟩
    rw [zbR]
    rcases X.vk x j hx with hk | hk
    · left
      refine ⟨hk, ?_⟩
      split
      · rename_i dj hj
        obtain ⟨hp, v, hv, r⟩ := look dj hj
        have : m₀ x = some v := zfW (by rw [kindOf]; exact hk) X.nodup hp hv
        rw [this]
        exact .val r
      · exact .unset
    · right
      refine ⟨.inl hk, ?_, ?_⟩
      · refine Option.isSome_iff_exists.mp (za6 (.inr ?_))
        rw [X.names]
        exact zaX hk
      · split
        · rename_i dj hj
          obtain ⟨hp, v, hv, r⟩ := look dj hj
          have : cm₀ x = some v := zfX (by rw [kindOf, hk]; intro e; cases e) X.nodup hp hv
          rw [this]
          exact .val r
        · exact .unset
  have fr : Frm cx ε E₀ F₁ { s₁ with heap := h₂, toks := tk₂ } (ds.map Slot.val ++ List.replicate kk .unset) (fun _ => 0) m₀ cm₀ := by
    refine ⟨⟨X.kind, X.names, X.glob, X.blt, X.codeAt, st₁.wd.newNotX frL, fun n c hc => st₁.wd.newNotX (frC n c hc).1, ic.toInCall.ns, ic.cell, slots⟩, st₁.wd.newNotF frL, fun n c hc => ⟨st₁.wd.newNotF (frC n c hc).1, (frC n c hc).2⟩, fun n n' c h h' => name_of_addr ic.apart (mem_of_lookup h) (mem_of_lookup h'), fun j _ l _ h => absurd h (noOwn j l), fun j l h => absurd h (noOwn j l)⟩
  have budE : BudE n (A.deeper E₀) := by
    obtain ⟨l, hl⟩ := bud.fs
    refine ⟨⟨bud.hd, zlC bud.dp, zlA bud.un, ⟨_, by show A.frames.map _ = _; rw [hl]; rfl⟩⟩, zlB bud.un, E₀, l, by show A.frames.map _ = _; rw [hl]; rfl, X.gen, X.co, X.blt, X.glob⟩
  refine hs n cf (A.deeper E₀) E₀ F₁ _ _ _ m₀ cm₀ ⟨ok, X.sc, hc, budE, w₂, fr⟩ ρ' o he _ _ fun f F' s' ad' m' cm' x fr' out => ?_
  have stF : Step cx F s F' s' := by
    refine st₁.trans ⟨fun a h => x.sub a h, fun a h => ?_, fun a o e nx => x.keep a o (keep₂ a o e) nx fun hm => ?_, x.os.trans rfl, x.wd⟩
    · rcases x.new a h with q | q | q
      · exact .inl q
      · right
        cases e : s₁.heap.get? a with
        | none => rfl
        | some o => rw [show ({ s₁ with heap := h₂, toks := tk₂ } : Shared).heap.get? a = some o from keep₂ a o e] at q; cases q
      · exact .inr (fresh₀ a q)
    · have := fresh₀ a hm
      rw [e] at this; cases this
  rcases hd with rfl | ⟨rfl, rfl⟩
  · cases out with
    | ret r => exact hR _ F' s' stF r
  · cases out
    exact hR _ F' s' stF .none
theorem zfT (ok : CxOk cx) {fns : Nat → Option Fn} (h : ∀ i fn, fns i = some fn → ∃ ε fd body ps, FnIs cx ε i fn fd body ps ∧ SoundSs cx ε body fn.body) : ∀ n, CallOK cx n (callF fns n)
  | 0 => fun f args d e => by unfold callF at e; cases e
  | n + 1 => fun f args d e => by
    unfold callF at e
    split at e
    · cases e
    · rename_i fn hf
      obtain ⟨ε, fd, body, ps, X, hs⟩ := h f fn hf
      obtain ⟨o, g, hfd⟩ := X.obj
      refine ⟨⟨o, fd, g, hfd, X.nx⟩, fun A F s vs bud w q Rs hR => ?_⟩
      split at e
      · cases e
      · rename_i ρ hb
        split at e
        · rename_i ρ' d' he
          cases e
          exact zkg X hs ok (zfT ok h n) hb he (.inl rfl) bud w q hR
        · rename_i ρ' he
          cases e
          exact zkg X hs ok (zfT ok h n) hb he (.inr ⟨rfl, rfl⟩) bud w q hR
        · cases e
end
set_option genInjectivity false in
structure TabG (cx : XCx) where
  d : Addr
  f : Int → Option Value
  nx : ¬ cx.X d
  hm : cx.h0.MapOf (intKind cx.prog cx.w) d f
  sys : (d == sysModules) = false
  yes : ∀ c : Nat, c < 128 → special.contains c = true → ∃ u, f (c : Int) = some (.str ⟨#[92, c]⟩ u)
  no : ∀ c : Nat, c < 128 → special.contains c = false → f (c : Int) = none
section
variable {cx : XCx} {ε : Sc}
theorem zeb (G : TabG cx) {o : Expr} {y : X} {x : Str} {p apos pos : Pos} (hb : plainBase o = true) (hl : (apos.endLine == pos.line) = true) (h : Sound cx ε o y) (hk : ε.kinds.lookup x = some .globalImplicit) (hv : cx.mg x = some (.ref G.d)) (hd : (x == ("__debug__" : Str)) = false) :
    Sound cx ε (.Call (.Attribute o "translate" apos) [.Name x p] [] pos) (.op .translate (.cons y .nil)) := by
  refine Sound.ofE ?_ fun _ => rfl
  intro n cf A env F s ρ ad m cm H res he Q E hQ
  obtain ⟨rs, e1, e2⟩ := ev_op he
  obtain ⟨r0, rs', e3, e4, rfl⟩ := zaR e1
  cases zcr e4
  refine zc8 hb hl (by simp) rfl ?_
  refine h.ev n cf A env F s ρ ad m cm H r0 e3 _ _ fun v F' s' st q => ?_
  simp only [List.map_cons, List.map_nil] at e2; delta opF at e2; dsimp only at e2
  unfold opTranslate at e2
  split at e2
  · rename_i c ec
    split at e2 <;> cases e2
    rename_i hc
    have qb := q.brep
    have ec' : r0.ds = .str [c] := by
      have := ec
      simpa using this
    rw [ec'] at qb
    obtain ⟨t, rfl, pp, z⟩ := qb.str_inv
    have noref : ∀ a, Value.str ⟨[c].toArray⟩ t = .ref a → ∃ o, s'.heap.get? a = some o ∧ o.dict = none := fun _ e => nomatch e
    with_reducible refine GM.of (.str ⟨[c].toArray⟩ t) (typeIs_str _ _ _) PySem.F.slot_str_translate PySem.F.type_str_translate noref ?_
    have H1 := H.step st
    have hst : starred (.Name x p) = false := rfl
    rw [zar hst, zax]
    refine Calls.callWith_builtin rfl (Calls.evalArgs_plain (Calls.spliced_cons (zcc H1 hk hv hd (Calls.spliced_nil ?_))))
    show wpAny _ _ (call (.builtin "str.translate") [.str ⟨#[c]⟩ t, .ref G.d]) _ _ s'
    have hm : s'.heap.MapOf (intKind cx.prog cx.w) G.d G.f := let ⟨o, es, ep, g, r⟩ := G.hm; ⟨o, es, ep, st.wd.base _ _ g G.nx, r⟩
    cases hsp : special.contains c with
    | true =>
      obtain ⟨u, hu⟩ := G.yes c hc hsp
      refine call_meetsIn PySem.F.slot_str_translate (typeIs_str _ _ _) PySem.F.entry_str_translate (PySem.F.args_str_translate_2 _ _) (zfo (f := G.f) (x := c) (u := u) hc) ⟨⟨hm, hu⟩, fun k k' => ?_⟩
      rw [if_pos hsp] at hQ
      refine hQ _ F' _ (st.toks k') (.val (.str (l := [92, c]) k (fun c' h => ?_) (by simp [lim])))
      simp only [List.mem_cons, List.not_mem_nil, or_false] at h
      rcases h with rfl | rfl <;> omega
    | false =>
      refine call_meetsIn PySem.F.slot_str_translate (typeIs_str _ _ _) PySem.F.entry_str_translate (PySem.F.args_str_translate_2 _ _) (zeI (f := G.f) hc G.sys) ⟨⟨hm, G.no c hc hsp, H.bud.hd⟩, fun h' k k' hk' => ?_⟩
      rw [if_neg (by rw [hsp]; decide)] at hQ
      refine hQ _ F' _ (st.trans (Step.grown H.ok st.wd k' hk')) (.val (.str (l := [c]) k (fun c' h => ?_) (by simp [lim])))
      simp only [List.mem_cons, List.not_mem_nil, or_false] at h
      subst h; omega
  · cases e2
theorem zi0 {a b : PySem.Str} {e : Expr} {y : X} {k k' : Nat} {p p' p'' pos : Pos} {la lb : List Nat} (h : Sound cx ε e y) (ha : constD (.str a) = some (.str la)) (hb : constD (.str b) = some (.str lb)) :
    Sound cx ε (.JoinedStr [.Constant (.str a) k p, .FormattedValue e (-1) none p', .Constant (.str b) k' p''] pos) (.op .fmt (.cons (.const (.str la)) (.cons y (.cons (.const (.str lb)) .nil)))) := by
  refine Sound.ofE ?_ fun _ => rfl
  intro n cf A env F s ρ ad m cm H res he Q E hQ
  obtain ⟨rs, e1, e2⟩ := ev_op he
  obtain ⟨r0, rs0, e3, e4, rfl⟩ := zaR e1
  obtain ⟨r1, rs1, e5, e6, rfl⟩ := zaR e4
  obtain ⟨r2, rs2, e7, e8, rfl⟩ := zaR e6
  cases zcr e8
  have c0 : r0 = .val (.str la) := by replace e3 := (zaJ _).symm.trans e3; cases e3; rfl
  have c2 : r2 = .val (.str lb) := by replace e7 := (zaJ _).symm.trans e7; cases e7; rfl
  subst c0; subst c2
  simp only [List.map_cons, List.map_nil] at e2; delta opF at e2; dsimp only at e2
  unfold opFmt at e2
  split at e2
  · rename_i l1 l2 l3 eds
    unfold strD at e2
    split at e2 <;> cases e2
    rename_i hz
    have e1' : la = l1 ∧ r1.ds = .str l2 ∧ lb = l3 := by
      have := eds
      simp only [R.ds, List.cons.injEq, D.str.injEq, and_true] at this
      exact this
    obtain ⟨rfl, hr1, rfl⟩ := e1'
    refine wpAny_JoinedStr ?_
    show wpAny _ _ (eval (.Constant (.str a) k p) env) _ E s
    refine (zab ha).ev n cf A env F s ρ ad m cm H _ e3 _ _ fun v F1 s1 st1 q1 => ?_
    have q1 := q1.brep
    obtain ⟨t1, rfl, p1, z1⟩ := BRep.str_inv (l := la) q1
    have H1 := H.step st1
    refine ⟨_, _, rfl, ?_, ?_⟩
    · show (Str.empty ++ PySem.Str.mk la.toArray).length ≤ sizeLine
      have : (Str.empty ++ PySem.Str.mk la.toArray).length = la.length := by
        rw [strLen_append]; show 0 + la.toArray.size = _; simp
      rw [this]; exact zaA z1
    show wpAny _ _ (eval (.FormattedValue e (-1) none p') env) _ E s1
    refine wpAny_FormattedValue_plain ?_
    refine h.ev n cf A env F1 s1 ρ ad m cm H1 r1 e5 _ _ fun v F2 s2 st2 q2 => ?_
    have q2 := q2.brep
    rw [hr1] at q2
    obtain ⟨t2, rfl, p2, z2⟩ := q2.str_inv
    have len1 : (Str.empty ++ PySem.Str.mk la.toArray).length = la.length := by
      rw [strLen_append]; show 0 + la.toArray.size = _; simp
    have len2 : (Str.empty ++ PySem.Str.mk la.toArray ++ PySem.Str.mk l2.toArray).length = la.length + l2.length := by
      rw [strLen_append, len1]; show _ + l2.toArray.size = _; simp
    have hz' : la.length + l2.length + lb.length ≤ lim := by rw [List.length_append, List.length_append] at hz; exact hz
    have rest : ∀ t2' k2, ∃ y t, (Value.str ⟨l2.toArray⟩ t2') = .str y t ∧ (Str.empty ++ PySem.Str.mk la.toArray ++ y).length ≤ sizeLine ∧ Joins (model cx.prog cx.w) A E (evalEach [.Constant (.str b) k' p''] env) (Str.empty ++ PySem.Str.mk la.toArray ++ y) (fun out s₁ => out.length ≤ sizeLine ∧ Q (.str out s₁.toks) { s₁ with toks := s₁.toks + 1 }) { s2 with toks := k2 } := by
      intro t2' k2
      refine ⟨_, _, rfl, by rw [len2]; exact zaA (by omega), ?_⟩
      show wpAny _ _ (eval (.Constant (.str b) k' p'') env) _ E _
      have H2 := (H1.step st2).step ((Step.refl (H1.step st2).wd).toks k2)
      refine (zab hb).ev n cf A env F2 _ ρ ad m cm H2 _ e7 _ _ fun v F3 s3 st3 q3 => ?_
      have q3 := q3.brep
      obtain ⟨t3, rfl, p3, z3⟩ := BRep.str_inv (l := lb) q3
      have len3 : (Str.empty ++ PySem.Str.mk la.toArray ++ PySem.Str.mk l2.toArray ++ PySem.Str.mk lb.toArray).length = la.length + l2.length + lb.length := by
        rw [strLen_append, len2]; show _ + lb.toArray.size = _; simp
      refine ⟨_, _, rfl, by rw [len3]; exact zaA hz', ?_⟩
      refine ⟨by rw [len3]; exact zaA hz', ?_⟩
      have e : (Str.empty ++ PySem.Str.mk la.toArray ++ PySem.Str.mk l2.toArray ++ PySem.Str.mk lb.toArray) = PySem.Str.mk (la ++ l2 ++ lb).toArray := by
        show PySem.Str.mk (#[] ++ la.toArray ++ l2.toArray ++ lb.toArray) = _
        simp
      rw [e]
      refine hQ _ F3 _ ((st1.trans ((st2.toks k2).trans st3)).toks _) (.val (.str _ (fun c hc => ?_) (by simpa [List.length_append] using hz)))
      rcases List.mem_append.mp hc with hc | hc
      · rcases List.mem_append.mp hc with hc | hc
        · exact p1 c hc
        · exact p2 c hc
      · exact p3 c hc
    refine wpAny_formatField_str (rest t2 s2.toks) (rest s2.toks (s2.toks + 1)) ?_
    show l2.toArray.size ≤ sizeLine
    rw [List.size_toArray]; exact zaA z2
  · cases e2
end
end Mine
end
section MpZ2x
open PySem PySem.Builtin.Str
namespace Mine
open PySem.Builtin PySem.Builtin.Re
section
variable {prog : Program} {w : World} {A A₀ : Around} {E : Value → Shared → Prop} {s : Shared} {P C : Addr} {codes : Array Value} {a : Array Nat} {u : Tok}
theorem zlk : ∀ (ps : List (PySem.Str × Tok)), (∀ p ∈ ps, p.1.cps.size ≤ 1000) → (ps.map fun x => x.1.cps.size).sum ≤ ps.length * 1000
  | [], _ => Nat.le_refl _
  | p :: r, h => by
    have h1 := h p List.mem_cons_self
    have h2 := zlk r fun q hq => h q (List.mem_cons_of_mem _ hq)
    simp only [List.map_cons, List.sum_cons, List.length_cons]
    rw [Nat.succ_mul, Nat.add_comm]; exact Nat.add_le_add h2 h1
theorem ziw {h : Heap} {a : Addr} {vs : Array Value} {n : Nat} (g : h.get? a = some (lobj vs n)) : h.IsList a vs := ⟨_, g, rfl, n, rfl⟩
theorem zjL {R : Result → Shared → Prop} (hp : PatAt s.heap P C codes) {repl : Value} {n done start : Nat} {must : Bool} {pc : Addr} {ps : List (PySem.Str × Tok)} {kk : Nat} (hl : s.heap.get? pc = some (lobj (strValues ps).toArray kk))
    (hf : ∃ k, k < 100 ∧ ((Sre.forSearch reCode a 1 start a.size must).runFor (4 * (k + 1))).outcome = some .failed) (hz : ps.length ≤ 1000) (ha : a.size ≤ 1000) (hps : ∀ p ∈ ps, p.1.cps.size ≤ 100)
    {res : PySem.Str} (hres : Txt.join Str.empty (ps.map (·.1) ++ (if done < a.size then [⟨a.extract done a.size⟩] else [])) = res)
    (h : ∀ h' tk t, Heap.SameBut pc s.heap h' → R (.ok (.ret (.str res t))) { s with heap := h', toks := tk }) :
    wpAny (model prog w) A (Builtin.«re.Pattern.sub.loop» ⟨[.ref P, .str ⟨a⟩ u, repl, rawInt 1, rawInt 0, rawInt n, rawInt done, rawInt start, .bool must, .ref pc, .bool false], []⟩) (fun fin s' => match fin with | .done f => R (.ok f) s' | .again c' => c'.quiet = true ∧ codeAny (model prog w) A₀ c' R s') E s := by
  obtain ⟨k, hk, ho⟩ := hf
  unfold Builtin.«re.Pattern.sub.loop»
  refine wpAny_bind (zhu hp ?_)
  show wpAny _ _ (reNextFound _ start must >>= _) _ _ _
  unfold reNextFound
  refine wpAny_bind (ziD k hk ho ?_)
  have jn : ∀ (ps' : List (PySem.Str × Tok)) (k' : Nat) (s' : Shared), s'.heap.get? pc = some (lobj (strValues ps').toArray k') → ps'.length ≤ 1001 → (∀ p ∈ ps', p.1.cps.size ≤ 1000) → Txt.join Str.empty (ps'.map (·.1)) = res → (∀ tk t, R (.ok (.ret (.str res t))) { s' with toks := tk }) →
      wpAny (model prog w) A (do
        let joiner ← reSlice a 0 0 0
        let text ← if ((← seqItems? (.ref pc)).getD #[]).isEmpty then pure joiner
          else call (.builtin (if (0 : Nat) == 0 then "str.join" else "bytes.join")) [joiner, .ref pc]
        if false then ret (← holding [text] do newTuple [text, ← mkInt (n : Int)]) else ret text) (fun fin s' => match fin with | .done f => R (.ok f) s' | .again c' => c'.quiet = true ∧ codeAny (model prog w) A₀ c' R s') E s' := by
    intro ps' k' s' g hz' hsz' hr hR
    have e0 : (PySem.Str.mk (a.extract 0 0)) = Str.empty := by simp [Str.empty]
    unfold reSlice
    simp only [beq_self_eq_true, if_true]
    rw [e0]
    refine wpAny_bind (wpAny_mkStr ?_ (by decide))
    refine wpAny_bind (wpAny_bind (wpAny_load g (wpAny_pure ?_)))
    cases ps' with
    | nil =>
      have hr' : res = Str.empty := by rw [← hr]; rfl
      rw [hr'] at hR
      exact wpAny_pure (hR _ _)
    | cons p r =>
      rw [if_neg (by simp [strValues])]
      refine wpAny_bind (SC.join (l := p :: r) (texts := (p :: r).map (·.1)) (ziw g) rfl ?_ fun t' k2 => ?_)
      · unfold JoinOk tooLong
        rw [zhP, Nat.zero_add]
        have hb := zlk (p :: r) hsz'
        have hs : ((List.map (fun x => x.1) (p :: r)).map fun x => x.length + Str.empty.length).sum = ((p :: r).map fun x => x.1.cps.size).sum := by
          rw [List.map_map]; rfl
        rw [hs]
        simp only [Bool.not_eq_true', decide_eq_false_iff_not]
        rw [sizeLine_eq]
        have : (p :: r).length * 1000 ≤ 1001 * 1000 := Nat.mul_le_mul_right _ hz'
        exact Nat.not_lt.mpr (Nat.le_trans hb (Nat.le_trans this (by decide)))
      · rw [hr]
        exact wpAny_pure (hR _ _)
  by_cases hd : done < a.size
  · rw [if_pos hd] at hres
    show wpAny _ _ (do
      if (done : Int).toNat < a.size then updateSeq pc (·.push (← reSlice a 0 (done : Int).toNat a.size))
      let joiner ← reSlice a 0 0 0
      let text ← if ((← seqItems? (.ref pc)).getD #[]).isEmpty then pure joiner
        else call (.builtin (if (0 : Nat) == 0 then "str.join" else "bytes.join")) [joiner, .ref pc]
      if false then ret (← holding [text] do newTuple [text, ← mkInt (n : Int)]) else ret text) _ _ _
    rw [if_pos (by simpa using hd)]
    have e1 : (done : Int).toNat = done := Int.toNat_natCast done
    rw [e1]
    unfold reSlice
    simp only [beq_self_eq_true, if_true]
    have hsz : (PySem.Str.mk (a.extract done a.size)).cps.size ≤ 1000 := by show (a.extract done a.size).size ≤ 1000; rw [Array.size_extract]; exact Nat.le_trans (Nat.sub_le _ _) (Nat.le_trans (Nat.min_le_left _ _) ha)
    refine wpAny_bind (wpAny_mkStr ?_ (by show (a.extract done a.size).size ≤ _; have := hsz; rw [sizeLine_eq]; exact Nat.le_trans hsz (by decide)))
    have hlp : (strValues ps).toArray.size ≤ sizeLine := by rw [List.size_toArray]; unfold strValues; rw [List.length_map, sizeLine_eq]; exact Nat.le_trans hz (by decide)
    refine wpAny_bind (wpAny_updateSeq (o := lobj (strValues ps).toArray kk) hl rfl ?_ hlp (by rw [Array.size_push]; omega))
    have e2 : (strValues ps).toArray.push (.str ⟨a.extract done a.size⟩ s.toks) = (strValues (ps ++ [(⟨a.extract done a.size⟩, s.toks)])).toArray := by
      unfold strValues; simp
    have g' := IsL.update (n := kk) (items := (strValues ps).toArray) (show IsL s.heap pc (strValues ps).toArray kk from hl) fun x => x.push (.str ⟨a.extract done a.size⟩ s.toks)
    simp only [e2] at g'
    have := jn (ps ++ [(⟨a.extract done a.size⟩, s.toks)]) _ { s with heap := s.heap.update pc (Obj.mapSeq fun x => x.push (.str ⟨a.extract done a.size⟩ s.toks)), toks := s.toks + 1 } g' (by rw [List.length_append]; exact Nat.succ_le_succ hz) (fun p hp => ?_) (by rw [List.map_append]; exact hres) (fun tk t => h _ _ _ (Heap.SameBut.update ..))
    · unfold reSlice at this
      exact this
    · rcases List.mem_append.mp hp with hp | hp
      · exact Nat.le_trans (hps p hp) (by decide)
      · simp only [List.mem_cons, List.not_mem_nil, or_false] at hp
        subst hp
        exact hsz
  · rw [if_neg hd, List.append_nil] at hres
    show wpAny _ _ (do
      if (done : Int).toNat < a.size then updateSeq pc (·.push (← reSlice a 0 (done : Int).toNat a.size))
      let joiner ← reSlice a 0 0 0
      let text ← if ((← seqItems? (.ref pc)).getD #[]).isEmpty then pure joiner
        else call (.builtin (if (0 : Nat) == 0 then "str.join" else "bytes.join")) [joiner, .ref pc]
      if false then ret (← holding [text] do newTuple [text, ← mkInt (n : Int)]) else ret text) _ _ _
    rw [if_neg (by simpa using hd)]
    exact jn ps kk s hl (Nat.le_succ_of_le hz) (fun p hp => Nat.le_trans (hps p hp) (by decide)) hres (fun tk t => h s.heap tk t (Heap.SameBut.refl ..))
end
end Mine
end MpZ2x
section MpZ3x
open PySem PySem.Builtin.Str
namespace Mine
open PySem.Builtin PySem.Builtin.Re
section
variable {prog : Program} {w : World} {A A₀ : Around} {E : Value → Shared → Prop} {s : Shared} {P C : Addr} {codes : Array Value} {a : Array Nat} {u : Tok}
end
end Mine
end MpZ3x
section MpZ4x
open PySem PySem.Builtin.Str
namespace Mine
open PySem.Builtin PySem.Builtin.Re
theorem fn_call : ∃ v, typeLookup (.type "function") "__call__" = pure (some v) := ⟨.builtin "function.__call__", by rw [typeLookup_type, builtinLookup_eq_fast]; kernel_rfl⟩
theorem zdi : isSubtype (.type "str") (.type "bytearray") = pure false := by rw [isSubtype_type]; kernel_rfl
section
variable {prog : Program} {w : World} {A A₀ : Around} {E : Value → Shared → Prop} {s : Shared} {P C : Addr} {codes : Array Value} {a : Array Nat} {u : Tok}
theorem ziV {R : Result → Shared → Prop} (hp : PatAt s.heap P C codes) {lam : Addr} {ol : Obj} (hl : s.heap.get? lam = some ol) (hc : ol.cls = .type "function")
    (h : codeAny (model prog w) A₀ (.builtin "re.Pattern.sub.loop" ⟨[.ref P, .str ⟨a⟩ u, .ref lam, rawInt 1, rawInt 0, rawInt 0, rawInt 0, rawInt 0, .bool false, .ref s.heap.objs.size, .bool false], []⟩) R { s with heap := s.heap.push (lobj #[] 0) }) :
    wpAny (model prog w) A (Builtin.«re.Pattern.sub» ⟨[.ref P, .ref lam, .str ⟨a⟩ u], []⟩) (fun fin s' => match fin with | .done f => R (.ok f) s' | .again c' => c'.quiet = true ∧ codeAny (model prog w) A₀ c' R s') E s := by
  obtain ⟨hh, g, d, tk, os⟩ := s
  have hT : (⟨hh, g, d, tk, os⟩ : Shared).TypeIs (.ref lam) "function" := ⟨ol, hl, hc⟩
  obtain ⟨cv, f1⟩ := fn_call
  have f2 := zdi
  unfold Builtin.«re.Pattern.sub» reSubstitute
  repeat (any_goals (first | assumption | ((with_reducible show wpAny _ _ (reWholeTarget _ _) _ _ _); refine zhu hp ?_) | wp_step))
  exact ⟨plainId_quiet zcI _, h⟩
end
end Mine
end MpZ4x
section
open PySem PySem.Builtin.Str PySem.W PySem.Calls PyProof.Rows
namespace Mine
noncomputable def TabXF (c Pt : Addr) (qs : List (Pos × PySem.Str)) (F : Addr → Prop) (h : Heap) : Prop :=
  F c ∧ CodeHd h c Pt ∧ ∃ ps, h.get? Pt = some (tabObj ps) ∧ TriplesOk ps.toList ∧ ∀ pos q, (pos, q) ∈ qs → ∀ cv, codeAmong pos ps.toList = some cv → ∃ c', cv = .ref c' ∧ F c' ∧ h.CodeRec (.ref c') q
theorem TabXF.mono {c Pt : Addr} {qs : List (Pos × PySem.Str)} {F F' : Addr → Prop} {h h' : Heap} (x : TabXF c Pt qs F h) (hF : ∀ a, F a → F' a) (hk : ∀ a o, F a ∨ a = Pt → h.get? a = some o → h'.get? a = some o) : TabXF c Pt qs F' h' := by
  obtain ⟨fc, ⟨o, vs, file, tf, flags, tg, inF, text, tt, e, r⟩, ps, g, ht, hq⟩ := x
  refine ⟨hF _ fc, ⟨o, vs, file, tf, flags, tg, inF, text, tt, hk _ _ (.inl fc) e, r⟩, ps, hk _ _ (.inr rfl) g, ht, fun pos q hm cv hc => ?_⟩
  obtain ⟨c', e', f', rec⟩ := hq pos q hm cv hc
  exact ⟨c', e', hF _ f', rec.at fun o e => hk _ o (.inl f') e⟩
theorem zdU {pos p2 : Pos} {c : Value} : ∀ {l : List Value}, TriplesOk l → (pos.line ≠ p2.line ∨ pos.col ≠ p2.col) → codeAmong pos (l ++ [rawInt p2.line, rawInt p2.col, c]) = codeAmong pos l
  | l, h, hne => by
    fun_induction TriplesOk l with
    | case1 =>
      simp only [List.nil_append, codeAmong, rawInt]
      rw [if_neg]
      intro hh
      simp only [Bool.and_eq_true, beq_iff_eq] at hh
      omega
    | case2 a t b u x rest ih =>
      simp only [List.cons_append, codeAmong]
      split
      · rfl
      · exact ih h
    | case3 l h1 h2 => exact h.elim
set_option genInjectivity false in
structure LamG (cx : XCx) where
  c : Addr
  Pt : Addr
  qs : List (Pos × PySem.Str)
  xf : cx.XF = TabXF c Pt qs
  xp : ∀ a, cx.X a ↔ a = Pt
  apart : qs.Pairwise fun a b => a.1.line ≠ b.1.line ∨ a.1.col ≠ b.1.col
  blt : cx.h0.BuiltinsAt cx.mg Pt
section
variable {cx : XCx} {ε : Sc}
theorem zgQ {qs : List (Pos × PySem.Str)} (ap : qs.Pairwise fun a b => a.1.line ≠ b.1.line ∨ a.1.col ≠ b.1.col) {p1 p2 : Pos} {q1 q2 : PySem.Str} (h1 : (p1, q1) ∈ qs) (h2 : (p2, q2) ∈ qs) : (p1 = p2 ∧ q1 = q2) ∨ p1.line ≠ p2.line ∨ p1.col ≠ p2.col := by
  induction qs with
  | nil => cases h1
  | cons x r ih =>
    obtain ⟨a1, a2⟩ := List.pairwise_cons.mp ap
    rcases List.mem_cons.mp h1 with e1 | h1
    · rcases List.mem_cons.mp h2 with e2 | h2
      · rw [← e1] at e2; cases e2; exact .inl ⟨rfl, rfl⟩
      · have := a1 _ h2; rw [← e1] at this; exact .inr this
    · rcases List.mem_cons.mp h2 with e2 | h2
      · have := a1 _ h1; rw [← e2] at this; exact .inr (this.imp Ne.symm Ne.symm)
      · exact ih a2 h1 h2
theorem zk5 (G : LamG cx) {n cf A env F s ρ ad m cm} (H : Here cx ε n cf A env F s ρ ad m cm) {qual : PySem.Str} (hcode : ε.code = some (G.c, qual)) {params : Arguments} {body : Expr} {scope : Scope} {pos : Pos} (hdef : defaultsOf params env = ([], []))
    (hq : (pos, qual ++ "<lambda>") ∈ G.qs) (hcl : closureFor scope env = pure []) {Q : Value → Shared → Prop} {E : Value → Shared → Prop}
    (hQ : ∀ F' s' lam c' ctv, Step cx F s F' s' → s.heap.get? lam = none → ¬ F' lam → s'.heap.get? lam = some (kla_obj "<lambda>" (qual ++ "<lambda>") params body scope [] ((cx.mg "__name__").getD .none) c' ctv) → F' c' → s'.heap.CodeRec (.ref c') (qual ++ "<lambda>") → Q (.ref lam) s') :
    wpAny (model cx.prog cx.w) A (eval (.Lambda params body scope pos) env) Q E s := by
  obtain ⟨hc, hqual⟩ := H.env.code _ _ hcode
  refine kla_eval hdef ?_
  rw [hqual]
  have hx : TabXF G.c G.Pt G.qs F s.heap := by have := H.wd.xi; rw [G.xf] at this; exact this
  obtain ⟨fc, hd, ps, g, ht, hqs⟩ := hx
  have hg := H.wd.glob H.ok
  have nP : ∀ {a o}, cx.h0.get? a = some o → a ≠ G.Pt → s.heap.get? a = some o := fun e h => H.wd.base _ _ e fun hx => h ((G.xp _).mp hx)
  have hgP : mainGlobals ≠ G.Pt := fun e => H.ok.gx ((G.xp _).mpr e)
  have hblt : s.heap.BuiltinsAt cx.mg G.Pt := by
    obtain ⟨bm, o, b1, b2, b3, b4, b5, r⟩ := G.blt
    exact ⟨bm, o, b1, b2, b3, b4, nP b5 b4, r⟩
  cases hca : codeAmong pos ps.toList with
  | none =>
    refine kla_makeFunction hcl H.env.glob hg hc hd g ht hca hgP hblt fun c' ctv h' tk hx hge hlt hrec htb => ?_
    have hXP : cx.X G.Pt := (G.xp _).mpr rfl
    have fP : ¬ F G.Pt := fun h => H.wd.nx _ h hXP
    have keep : ∀ a o, s.heap.get? a = some o → ¬ cx.X a → h'.get? a = some o := fun a o e nx => hx a o (fun e => nx ((G.xp _).mpr e)) e
    have frc : s.heap.get? c' = none := by
      cases e : s.heap.get? c' with
      | none => rfl
      | some o => exact absurd (Heap.lt_size e) (Nat.not_lt.mpr hge)
    have ndC : ¬ cx.X c' := H.wd.newNotX frc
    obtain ⟨c2, oc, vs, t, e2, goc, r⟩ := hrec
    cases e2
    let h3 : Heap := h'.push (kla_obj "<lambda>" (qual ++ "<lambda>") params body scope [] ((cx.mg "__name__").getD .none) c' ctv)
    have up : ∀ a o, h'.get? a = some o → h3.get? a = some o := fun a o e => Heap.get?_push_of_some _ e
    have frl : s.heap.get? h'.objs.size = none := by
      cases e : s.heap.get? h'.objs.size with
      | none => rfl
      | some o => exact absurd (Nat.lt_of_lt_of_le (Heap.lt_size e) (Nat.le_trans hge (Nat.le_of_lt hlt))) (Nat.lt_irrefl _)
    have rec3 : h3.CodeRec (.ref c') (qual ++ "<lambda>") := ⟨c', oc, vs, t, rfl, up _ _ goc, r⟩
    have st : Step cx F s (fun a => F a ∨ a = c') { s with heap := h3, toks := tk } := by
      refine ⟨fun _ h => .inl h, fun a h => h.imp (fun h => h) (fun (e : a = c') => by rw [e]; exact frc), fun a o e nx => up _ _ (keep a o e nx), rfl, ⟨fun a o e nx => up _ _ (keep a o (H.wd.base a o e nx) nx), ?_, H.wd.gens, fun a o e nx => .inl (H.wd.f0 a o e nx), fun a h => ?_, fun a h => h.elim (H.wd.nx a) (fun (e : a = c') => by rw [e]; exact ndC), fun a h => ?_⟩⟩
      · rw [G.xf]
        refine ⟨.inl fc, ?_, _, up _ _ htb, ?_, fun p q hm cv hcv => ?_⟩
        · obtain ⟨o, vs, file, tf, flags, tg, inF, text, tt, e, r⟩ := hd
          exact ⟨o, vs, file, tf, flags, tg, inF, text, tt, up _ _ (keep _ _ e (H.wd.nx _ fc)), r⟩
        · have := TriplesOk_snoc pos.line pos.col (.ref c') ps.toList ht
          simpa using this
        · have ea : (ps ++ #[rawInt pos.line, rawInt pos.col, .ref c']).toList = ps.toList ++ [rawInt pos.line, rawInt pos.col, .ref c'] := by simp
          rw [ea] at hcv
          rcases zgQ G.apart hm hq with ⟨rfl, rfl⟩ | hne
          · rw [codeAmong_snoc _ ht hca] at hcv
            cases hcv
            exact ⟨c', rfl, .inr rfl, rec3⟩
          · rw [zdU ht hne] at hcv
            obtain ⟨c4, e4, f4, r4⟩ := hqs p q hm cv hcv
            exact ⟨c4, e4, .inl f4, r4.at fun o e => up _ _ (keep _ _ e (H.wd.nx _ f4))⟩
      · rcases h with h | h
        · obtain ⟨o, e⟩ := H.wd.lt a h
          exact ⟨o, up _ _ (keep a o e (H.wd.nx a h))⟩
        · subst h; exact ⟨oc, up _ _ goc⟩
      · rw [(G.xp a).mp h]; exact ⟨_, up _ _ htb⟩
    refine hQ _ _ _ c' ctv st frl (fun h => ?_) (Heap.get?_push_size _ rfl) (.inr rfl) rec3
    rcases h with h | h
    · obtain ⟨o, e⟩ := H.wd.lt _ h
      rw [frl] at e; cases e
    · rw [← h] at hlt; exact absurd hlt (Nat.lt_irrefl _)
  | some cv =>
    obtain ⟨c', rfl, fc', rec⟩ := hqs pos _ hq cv hca
    refine kla_makeFunctionHit hcl H.env.glob hg hc hd g ht hca hblt fun ctv h' tk hk hsz => ?_
    have up : ∀ a o, s.heap.get? a = some o → (h'.push (kla_obj "<lambda>" (qual ++ "<lambda>") params body scope [] ((cx.mg "__name__").getD .none) c' ctv)).get? a = some o := fun a o e => Heap.get?_push_of_some _ (hk a o e)
    have frl : s.heap.get? h'.objs.size = none := by
      cases e : s.heap.get? h'.objs.size with
      | none => rfl
      | some o => exact absurd (Nat.lt_of_lt_of_le (Heap.lt_size e) hsz) (Nat.lt_irrefl _)
    refine hQ F _ _ c' ctv (Step.grown H.ok H.wd tk up) frl (H.wd.newNotF frl) (Heap.get?_push_size _ rfl) fc' (rec.at fun o e => up _ _ e)
end
section
variable {cx : XCx} {A : Around} {E : Value → Shared → Prop} {s : Shared} {Pa : Addr} {a : Array Nat} {u : Tok}
noncomputable def lamBody (k1 k2 k3 : Nat) (p1 p2 p3 p4 p5 p6 p7 p8 : Pos) : Expr :=
  .BinOp (.Constant (.str "\\") k1 p1) .Add (.BoolOp .Or [.Call (.Attribute (.Name "_m" p2) "group" p3) [.Constant (.int 1) k2 p4] [] p5, .Constant (.str "") k3 p6] p7) p8
end
noncomputable def lamParams (p : Pos) : Arguments := { posonlyargs := [], args := [{ arg := "_m", annotation := none, pos := p }], vararg := none, kwonlyargs := [], kw_defaults := [], kwarg := none, defaults := [] }
noncomputable def lamScope : Scope := { kind := .function, names := [("_m", .local)], isGenerator := false, isCoroutine := false }
section
variable {cx : XCx} {A : Around} {E : Value → Shared → Prop} {s : Shared} {Pa : Addr} {a : Array Nat} {u : Tok}
end
end Mine
end
section MpZ8x
open PySem PySem.Builtin.Str PySem.W PySem.Calls PyProof.Rows
namespace Mine
open PySem.Builtin PySem.Builtin.Re
noncomputable def failedB (m : Sre.M) : Bool := match m.outcome with | some .failed => true | _ => false
theorem ziB {m : Sre.M} (h : failedB m = true) : m.outcome = some .failed := by
  unfold failedB at h
  split at h
  · assumption
  · cases h
theorem zkU : (noHit.all fun a => failedB ((Sre.forSearch reCode a.toArray 1 0 a.toArray.size false).runFor (4 * (0 + 1)))) = true := by decide +kernel
section
variable {prog : Program} {w : World} {A : Around} {s : Shared}
theorem zjM {args : Args} {R : Result → Shared → Prop}
    (h : wpAny (model prog w) A.in1 (Builtin.«re.Pattern.sub.loop» args) (fun fin s' => match fin with | .done f => R (.ok f) s' | .again c' => c'.quiet = true ∧ codeAny (model prog w) A c' R s') (fun e s' => R (.error e) s') s) :
    codeAny (model prog w) A (.builtin "re.Pattern.sub.loop" args) R s :=
  codeAny_builtin zeV (by rw [Around.under_plainId zcI _]; exact h)
theorem zjE {P C : Addr} {codes : Array Value} {a : Array Nat} {u : Tok} {lam : Addr} :
    MeetsIn prog w (Builtin.«re.Pattern.sub» ⟨[.ref P, .ref lam, .str ⟨a⟩ u], []⟩) (fun A R s => (PatAt s.heap P C codes ∧ ∃ ol, s.heap.get? lam = some ol ∧ ol.cls = .type "function") ∧
      codeAny (model prog w) A (.builtin "re.Pattern.sub.loop" ⟨[.ref P, .str ⟨a⟩ u, .ref lam, rawInt 1, rawInt 0, rawInt 0, rawInt 0, rawInt 0, .bool false, .ref s.heap.objs.size, .bool false], []⟩) R { s with heap := s.heap.push (lobj #[] 0) }) :=
  fun A R s hs => by
    obtain ⟨⟨hp, ol, hl, hc⟩, h⟩ := hs
    exact ziV (A := A.in1) (A₀ := A) hp hl hc h
theorem zkw {P C : Addr} {codes : Array Value} {a : List Nat} {u : Tok} (ha : noHit.contains a = true) (hp : PatAt s.heap P C codes) {lam : Addr} {ol : Obj} (hl : s.heap.get? lam = some ol) (hc : ol.cls = .type "function") {Q : Value → Shared → Prop} {E : Value → Shared → Prop}
    (h : ∀ h' tk t, (∀ b o, s.heap.get? b = some o → h'.get? b = some o) → Q (.str ⟨a.toArray⟩ t) { s with heap := h', toks := tk }) :
    wpAny (model prog w) A (call (.builtin "re.Pattern.sub") [.ref P, .ref lam, .str ⟨a.toArray⟩ u]) Q E s := by
  have hT : s.TypeIs (.ref P) "re.Pattern" := by
    obtain ⟨x, t, u, v, w, y, e, _⟩ := hp.pat
    exact ⟨_, e, rfl⟩
  have hm : a ∈ noHit := by simpa using ha
  have hf := ziB (List.all_eq_true.mp zkU a hm)
  have hlen : a.length ≤ 10 := by
    have : (noHit.all fun a => decide (a.length ≤ 10)) = true := by decide
    simpa using List.all_eq_true.mp this a hm
  refine call_meetsIn zdC hT zfQ (zeZ _ _ _) zjE ⟨⟨hp, ol, hl, hc⟩, zjM ?_⟩
  have hk : ∀ b o, s.heap.get? b = some o → (s.heap.push (lobj #[] 0)).get? b = some o := fun b o e => Heap.get?_push_of_some _ e
  have hnew : (s.heap.push (lobj #[] 0)).get? s.heap.objs.size = some (lobj (strValues []).toArray 0) := Heap.get?_push_size _ rfl
  refine zjL (n := 0) (done := 0) (start := 0) (ps := []) (kk := 0) (res := ⟨a.toArray⟩) (hp.keeps hk) hnew ⟨0, by decide, hf⟩ (by simp) (by rw [List.size_toArray]; omega) (by simp) ?_ fun h' tk t sb => ?_
  · cases a with
    | nil => rfl
    | cons c r =>
      rw [if_pos (by simp)]
      have e : (c :: r).toArray.extract 0 (c :: r).toArray.size = (c :: r).toArray := by simp
      rw [e]
      unfold Txt.join
      have := zfc [] [c :: r]
      simpa [joinL, Str.empty] using this
  · refine h h' tk t fun b o e => (sb.2 b (Nat.ne_of_lt (Heap.lt_size e))).trans (hk b o e)
end
end Mine
end MpZ8x
section MpZ9x
open PySem PySem.Builtin.Str PySem.W PySem.Calls PyProof.Rows
namespace Mine
open PySem.Builtin PySem.Builtin.Re
section
variable {cx : XCx} {A : Around} {s : Shared}
end
end Mine
end MpZ9x
section
open PySem PySem.Builtin.Str PySem.W PySem.Calls PyProof.Rows
namespace Mine
set_option genInjectivity false in
structure PatG (cx : XCx) where
  P : Addr
  C : Addr
  codes : Array Value
  nP : ¬ cx.X P
  nC : ¬ cx.X C
  at0 : PatAt cx.h0 P C codes
theorem PatG.at {cx : XCx} (G : PatG cx) {F : Addr → Prop} {s : Shared} (w : Wd cx F s) : PatAt s.heap G.P G.C G.codes := by
  obtain ⟨⟨a, t, u, v, w', y, e, r⟩, ⟨n, ec⟩, is⟩ := G.at0
  exact ⟨⟨a, t, u, v, w', y, w.base _ _ e G.nP, r⟩, ⟨n, w.base _ _ ec G.nC⟩, is⟩
section
variable {cx : XCx} {ε : Sc}
theorem zge (G : LamG cx) (PG : PatG cx) {x : PySem.Str} {p apos pos lp p0 : Pos} {e : Expr} {y : X} {qual : PySem.Str} {k1 k2 k3 : Nat} {p1 p2 p3 p4 p5 p6 p7 p8 : Pos} (hk : ε.kinds.lookup x = some .globalImplicit) (hv : cx.mg x = some (.ref PG.P)) (hd : (x == ("__debug__" : PySem.Str)) = false)
    (hcode : ε.code = some (G.c, qual)) (hq : (lp, qual ++ "<lambda>") ∈ G.qs) (hl : (apos.endLine == pos.line) = true) (hpl : (p3.endLine == p5.line) = true) (hst : starred e = false) (h : Sound cx ε e y) :
    Sound cx ε (.Call (.Attribute (.Name x p) "sub" apos) [.Lambda (lamParams p0) (lamBody k1 k2 k3 p1 p2 p3 p4 p5 p6 p7 p8) lamScope lp, e] [] pos) (.op .resub0 (.cons y .nil)) := by
  refine Sound.ofE ?_ fun _ => rfl
  intro n cf A env F s ρ ad m cm H res he Q E hQ
  obtain ⟨rs, e1, e2⟩ := ev_op he
  obtain ⟨r0, rs', e3, e4, rfl⟩ := zaR e1
  cases zcr e4
  have hstL : starred (.Lambda (lamParams p0) (lamBody k1 k2 k3 p1 p2 p3 p4 p5 p6 p7 p8) lamScope lp) = false := rfl
  have hany : (backTo pos (starEach [.Lambda (lamParams p0) (lamBody k1 k2 k3 p1 p2 p3 p4 p5 p6 p7 p8) lamScope lp, e] env)).any (·.1) = false := by
    rw [zar hstL, zax, List.any_cons, zar hst, zax, List.any_cons]; rfl
  refine zc8 rfl hl (by simp) hany ?_
  refine zcc H hk hv hd ?_
  obtain ⟨px, pt, pu, pv, pw, py, pe, _⟩ := (PG.at H.wd).pat
  refine getMethod_builtin (T := "re.Pattern") ⟨_, pe, rfl⟩ zeQ zdC zf1 (fun a e => ⟨_, by cases e; exact pe, rfl⟩) ?_
  refine Calls.callWith_builtin hany ?_
  rw [zar hstL, zax, zar hst, zax]
  have hcl : closureFor lamScope env = pure [] := closureFor_none (by intro y hy; simp [lamScope] at hy; subst hy; decide)
  refine Calls.evalArgs_plain (Calls.spliced_cons (zk5 G H hcode rfl hq hcl fun F1 s1 lam c' ctv st1 fr1 nf1 g1 fc1 rec1 => ?_))
  have H1 := H.step st1
  refine Calls.spliced_cons (h.ev n cf A env F1 s1 ρ ad m cm H1 r0 e3 _ _ fun v F2 s2 st2 q2 => Calls.spliced_nil ?_)
  show wpAny _ _ (call (.builtin "re.Pattern.sub") [.ref PG.P, .ref lam, v]) _ _ s2
  have nxl : ¬ cx.X lam := H.wd.newNotX fr1
  have g2 := st2.keep _ _ g1 nxl
  have rec2 := rec1.at fun o e => st2.keep _ o e (st1.wd.nx _ fc1)
  simp only [List.map_cons, List.map_nil] at e2; delta opF at e2; dsimp only at e2
  unfold opResub0 at e2
  split at e2
  · rename_i a ea
    have qb := q2.brep
    have ea' : r0.ds = .str a := by simpa using ea
    rw [ea'] at qb
    obtain ⟨t, rfl, pp, z⟩ := qb.str_inv
    have stt := st1.trans st2
    split at e2
    · rename_i hno
      cases e2
      refine zkw hno (PG.at st2.wd) g2 rfl fun h' tk t' hk' => ?_
      exact hQ _ F2 _ (stt.trans (Step.grown H.ok st2.wd tk hk')) (.val (.str t' pp z))
    · cases e2
  · cases e2
end
section
variable {M : Model} {A : Around} {E : Value → Shared → Prop} {s : Shared}
end
section
variable {cx : XCx} {A : Around} {E : Value → Shared → Prop} {s : Shared}
end
section
variable {cx : XCx} {A : Around} {E : Value → Shared → Prop} {s : Shared}
end
noncomputable def repX (i : Nat) (b1 c1 b2 c2 : List Nat) : X :=
  .op .replace (.cons (.op .replace (.cons (.var i) (.cons (.const (.str b1)) (.cons (.const (.str c1)) .nil)))) (.cons (.const (.str b2)) (.cons (.const (.str c2)) .nil)))
section
variable {cx : XCx} {ε : Sc}
end
end Mine
end
section

namespace Mine

end Mine
end
section
open PySem PySem.Builtin.Str PySem.W PySem.Calls PyProof.Rows
namespace Mine
theorem zf7 : ∀ {l : List D} {ls : List (List Nat)}, toStrs l = some ls → l = ls.map .str
  | [], ls, e => by cases e; rfl
  | d :: r, ls, e => by
    cases d <;> simp only [toStrs] at e <;> try cases e
    obtain ⟨ls', e', rfl⟩ := Option.map_eq_some_iff.mp e
    rw [List.map_cons, ← zf7 e']
section
variable {cx : XCx} {ε : Sc}
end
end Mine
end
section
open PySem PySem.Calls PyProof.Rows PySem.Builtin.Str
namespace Mine
section
variable {cx : XCx} {ε : Sc}
theorem zaB {x : Str} {T : String} {pos : Pos} (hk : ε.kinds.lookup x = some .globalImplicit) (hg : cx.mg x = none) (hn : x ≠ "__name__") (hv : bootBuiltins x = some (.type T)) (hd : (x == ("__debug__" : Str)) = false) : Sound cx ε (.Name x pos) (.const (.ty T)) := by
  refine Sound.ofE ?_ fun _ => rfl
  intro n cf A env F s ρ ad m cm H r hr Q E hQ
  replace hr := (zaJ _).symm.trans hr
  cases hr
  exact zaS H hk hg hn hv hd (hQ _ F s (Step.refl H.wd) (.val (.ty T)))
noncomputable abbrev dead : S := .assert (.const (.bool false))
theorem ex_dead {cf : Nat → List D → Option D} {ρ : List Slot} : ex cf dead ρ = none := rfl
theorem zaw {sts : List Stmt} : SoundSs cx ε sts dead := by
  intro n cf A env F s ρ ad m cm H ρ' o h
  rw [ex_dead] at h; cases h
theorem zc0 {f : PySem.Str → PySem.Str → R} : ∀ d ds r, opStr2 f (d :: ds) = some r → ∃ l, d = .str l := by
  intro d ds r h
  cases d <;> first | exact ⟨_, rfl⟩ | cases h
theorem zg5 : ∀ d ds r, opReplace (d :: ds) = some r → ∃ l, d = .str l := by
  intro d ds r h
  cases d <;> first | exact ⟨_, rfl⟩ | cases h
theorem zk7 : ∀ d ds r, opJoin (d :: ds) = some r → ∃ l, d = .str l := by
  intro d ds r h
  cases d <;> first | exact ⟨_, rfl⟩ | cases h
theorem ziY : ∀ d ds r, opSplit (d :: ds) = some r → ∃ l, d = .str l := by
  intro d ds r h
  cases d <;> first | exact ⟨_, rfl⟩ | cases h
section
variable {o : Expr} {apos pos : Pos} {es : List Expr} {xo x : X}
theorem m_rfind (hl : (apos.endLine == pos.line) = true) (hb : plainBase o = true) (hn : es.length < 30) (h0 : Sound cx ε o xo) (h : SoundL cx ε es x false) : Sound cx ε (.Call (.Attribute o "rfind" apos) es [] pos) (.op .rfind (.cons xo x)) :=
  zaN hb hl hn PySem.F.slot_str_rfind rfl h0 h (by intro d ds r h; delta opF at h; dsimp only at h; exact zc0 d ds r h) zkI
theorem zcp (hl : (apos.endLine == pos.line) = true) (hb : plainBase o = true) (hn : es.length < 30) (h0 : Sound cx ε o xo) (h : SoundL cx ε es x false) : Sound cx ε (.Call (.Attribute o "startswith" apos) es [] pos) (.op .startswith (.cons xo x)) :=
  zaN hb hl hn PySem.F.slot_str_startswith rfl h0 h (by intro d ds r h; delta opF at h; dsimp only at h; exact zc0 d ds r h) zfB
theorem zir (hl : (apos.endLine == pos.line) = true) (hb : plainBase o = true) (hn : es.length < 30) (h0 : Sound cx ε o xo) (h : SoundL cx ε es x false) : Sound cx ε (.Call (.Attribute o "endswith" apos) es [] pos) (.op .endswith (.cons xo x)) :=
  zaN hb hl hn PySem.F.slot_str_endswith rfl h0 h (by intro d ds r h; delta opF at h; dsimp only at h; exact zc0 d ds r h) zg8
theorem zfK (hl : (apos.endLine == pos.line) = true) (hb : plainBase o = true) (hn : es.length < 30) (h0 : Sound cx ε o xo) (h : SoundL cx ε es x false) : Sound cx ε (.Call (.Attribute o "rstrip" apos) es [] pos) (.op .rstrip (.cons xo x)) :=
  zaN hb hl hn PySem.F.slot_str_rstrip rfl h0 h (by intro d ds r h; delta opF at h; dsimp only at h; exact zc0 d ds r h) zjg
theorem zhK (hl : (apos.endLine == pos.line) = true) (hb : plainBase o = true) (hn : es.length < 30) (h0 : Sound cx ε o xo) (h : SoundL cx ε es x false) : Sound cx ε (.Call (.Attribute o "lstrip" apos) es [] pos) (.op .lstrip (.cons xo x)) :=
  zaN hb hl hn PySem.F.slot_str_lstrip rfl h0 h (by intro d ds r h; delta opF at h; dsimp only at h; exact zc0 d ds r h) zji
theorem zjG (hl : (apos.endLine == pos.line) = true) (hb : plainBase o = true) (hn : es.length < 30) (h0 : Sound cx ε o xo) (h : SoundL cx ε es x false) : Sound cx ε (.Call (.Attribute o "replace" apos) es [] pos) (.op .replace (.cons xo x)) :=
  zaN hb hl hn PySem.F.slot_str_replace rfl h0 h (fun d ds r h => zg5 d ds r h) zin
theorem zfb (hl : (apos.endLine == pos.line) = true) (hb : plainBase o = true) (hn : es.length < 30) (h0 : Sound cx ε o xo) (h : SoundL cx ε es x false) : Sound cx ε (.Call (.Attribute o "join" apos) es [] pos) (.op .join (.cons xo x)) :=
  zaN hb hl hn PySem.F.slot_str_join rfl h0 h (fun d ds r h => zk7 d ds r h) op_join
theorem zfJ (hl : (apos.endLine == pos.line) = true) (hb : plainBase o = true) (hn : es.length < 30) (h0 : Sound cx ε o xo) (h : SoundL cx ε es x false) : Sound cx ε (.Call (.Attribute o "split" apos) es [] pos) (.op .split (.cons xo x)) :=
  zaN hb hl hn PySem.F.slot_str_split rfl h0 h (fun d ds r h => ziY d ds r h) zkH
end
end
noncomputable def nthBody (p : Program) (n : Nat) : List Stmt := match p.main.body[n]? with
  | some (.FunctionDef _ _ b _ _ _ _ _ _ _) => b
  | _ => []
set_option genInjectivity false in
structure GN (cx : XCx) (fs : List (Str × Nat)) (bs : List Str) : Prop where
  f : ∀ x i, (x, i) ∈ fs → cx.mg x = some (.ref (cx.fa i))
  b : ∀ x, x ∈ bs → cx.mg x = none
theorem nfree {ks : List (Str × NameKind)} {x : Str} {k : NameKind} (h : ks.lookup x = some k) (hk : k ≠ .free := by decide) : ks.lookup x ≠ some .free := by
  rw [h]; intro e; cases e; exact hk rfl
theorem zca {is : List Nat} (h : is.length = 1 := by rfl) : ∀ d ds, one1 d = some ds → ds.length = is.length := by
  intro d ds e; cases e; exact h.symm
noncomputable def compOKb (ε : Sc) (scope : Scope) (xs : List Str) (is : List Nat) : Bool :=
  (scope.kind == .function) && scope.names.all (fun y => y.2 != .cell) && scope.names.all (fun y => y.2 != .local || scope.names.lookup y.1 == some .local) && xs.all (fun x => scope.names.lookup x == some .local)
    && scope.names.all (fun y => y.2 != .free || ((ε.vars.lookup y.1).isSome && ε.kinds.lookup y.1 != some .local)) && ε.vars.all (fun y => !is.contains y.2) && decide xs.Nodup && decide is.Nodup && decide (xs.length = is.length)
theorem zbr {ε : Sc} {scope : Scope} {xs : List Str} {is : List Nat} (h : compOKb ε scope xs is = true) : CompOK ε scope xs is := by
  unfold compOKb at h
  simp only [Bool.and_eq_true, decide_eq_true_eq, List.all_eq_true, Bool.or_eq_true, bne_iff_ne, beq_iff_eq, Bool.not_eq_true', ne_eq] at h
  obtain ⟨⟨⟨⟨⟨⟨⟨⟨h1, h2⟩, h3⟩, h4⟩, h5⟩, h6⟩, h7⟩, h8⟩, h9⟩ := h
  refine ⟨h1, h2, fun y hy e => (h3 y hy).elim (fun q => absurd e q) id, h4, fun y k hy e => ?_, fun y j hj hm => ?_, h7, h8, h9⟩
  · rcases h5 (y, k) hy with q | ⟨q1, q2⟩
    · exact absurd e q
    · exact ⟨Option.isSome_iff_exists.mp q1, q2⟩
  · have := h6 (y, j) (zaX hj)
    rw [List.contains_iff_mem.mpr hm] at this
    cases this
theorem zlm {x : Str} {p : Pos} : (Expr.Name x p).pos = p := rfl
theorem pos_lc {e : Expr} {g : List Comprehension} {c : Scope} {p : Pos} : (Expr.ListComp e g c p).pos = p := rfl
theorem pos_tu {l : List Expr} {k : Nat} {p : Pos} : (Expr.Tuple l k p).pos = p := rfl
theorem kindOf_ε {env : Env} {ks : List (Str × NameKind)} (h : env.scope.names = ks) (x : Str) : env.kindOf x = ks.lookup x := by unfold Env.kindOf; rw [h]
theorem swapC {ks : List (Str × NameKind)} {elt : Expr} {gens : List Comprehension} {scope : Scope} {pos py : Pos} {y : Str} {line : Nat} (hk : ks.lookup y = some .local) (hp : (py.line == pos.line) = true) (ha : (scope.names.any fun (n, k) => n == y && (k == .local || k == .cell)) = false) :
    ∀ env : Env, env.scope.kind = .function → env.scope.names = ks → swapsWith (.ListComp elt gens scope pos) (some (.Name y py)) line env = pure true := by
  intro env h1 h2
  unfold swapsWith
  have hb : (env.blockKind == .function) = true := by unfold Env.blockKind; rw [h1]; rfl
  simp only [kindOf_ε h2, hk, hb, zlm, pos_lc, hp, ha]
  rfl
theorem zkv {ks : List (Str × NameKind)} {x y : Str} {p p' pos' posv : Pos} {k kv : Nat} {v1 v2 : Expr} (hx : ks.lookup x = some .local) (hy : ks.lookup y = some .local) (hp : (p'.line == p.line) = true)
    (hs1 : starred v1 = false) (hs2 : starred v2 = false) (hd : ([x, y].eraseDups.length != 2) = false) (hf : [v1, v2].all (foldedForSure 8) = false) (hc : [v1, v2].all (constantsAlone 8) = false) :
    ∀ env : Env, env.scope.kind = .function → env.scope.names = ks → swappedStores [.Tuple [.Name x p, .Name y p'] k pos'] (.Tuple [v1, v2] kv posv) env = pure (some [x, y]) := by
  intro env h1 h2
  have hb : (env.blockKind != .function) = false := by unfold Env.blockKind; rw [h1]; rfl
  unfold swappedStores
  have hp0 : (p.line == p.line) = true := beq_self_eq_true _
  have el : ((some NameKind.local : Option NameKind) == some NameKind.local) = true := rfl
  have hst : ∀ v : Expr, starred v = false → (match v with | .Starred .. => true | _ => false) = false := fun v h => by
    cases v <;> first | rfl | cases h
  simp only [List.length_cons, List.length_nil, List.head?_cons, Option.map_some, Option.getD_some, zlm, pos_tu, List.filterMap_cons, List.filterMap_nil, kindOf_ε h2, hx, hy, hp, hp0, el, Bool.and_self, if_true, hb, hf, hc, Bool.or_false]
  simp only [Nat.zero_add, Nat.reduceAdd, hd]
  have h3 : ([v1, v2].any fun x => match x with | .Starred .. => true | _ => false) = false := by
    simp only [List.any_cons, List.any_nil, Bool.or_false, hst v1 hs1, hst v2 hs2]
  exact (if_neg Bool.false_ne_true).trans ((if_neg fun q => Bool.false_ne_true (h3.symm.trans q)).trans rfl)
end Mine
end
section
open PySem PySem.Calls PyProof.Rows PySem.Builtin.Str PySem.W
namespace Mine
section
variable {cx : XCx}
theorem len1 {P : List Value → Prop} (h : ∀ a, P [a]) (vs : List Value) (e : vs.length = 1) : P vs := by
  obtain ⟨a, rfl⟩ := List.length_eq_one_iff.mp e
  exact h a
theorem len2 {P : List Value → Prop} (h : ∀ a b, P [a, b]) (vs : List Value) (e : vs.length = 2) : P vs := by
  cases vs with
  | nil => cases e
  | cons a t => exact len1 (P := fun t => P (a :: t)) (h a) t (Nat.succ.inj e)
theorem len3 {P : List Value → Prop} (h : ∀ a b c, P [a, b, c]) (vs : List Value) (e : vs.length = 3) : P vs := by
  cases vs with
  | nil => cases e
  | cons a t => exact len2 (P := fun t => P (a :: t)) (h a) t (Nat.succ.inj e)
theorem zat {fd : FuncData} {fn : Fn} {ps : List Str} (hva : fn.va = false) (h : ∀ vs : List Value, vs.length = fn.np → bindArgs fd ⟨vs, []⟩ = pure (ps.zip vs)) : BindOK cx fd fn ps := by
  intro A F s vs args ds ok w q hb Q E hQ
  unfold boundTo at hb
  rw [hva] at hb
  simp only [Bool.false_eq_true, if_false] at hb
  split at hb <;> cases hb
  rename_i hl
  rw [h vs (q.length.trans hl)]
  exact wpAny_pure (hQ F s vs (Step.refl w) q)
theorem zhp {fd : FuncData} {fn : Fn} {ps : List Str} {K : Frag} {T : Addr} {cls : Value} {items : Array Value} {n : Nat} (X : K.In cx.h0) (nx : ¬ cx.X T) (hva : fn.va = false)
    (hd : fd.defaults = .ref T) (ho : K.lookup T = some { cls := cls, data := .seq items n }) (h : ∀ vs : List Value, vs.length = fn.np → ∃ k, bindArgs fd ⟨vs, []⟩ = seqItems? fd.defaults >>= k ∧ k (some items) = pure (ps.zip vs)) : BindOK cx fd fn ps := by
  intro A F s vs args ds ok w q hb Q E hQ
  unfold boundTo at hb
  rw [hva] at hb
  simp only [Bool.false_eq_true, if_false] at hb
  split at hb <;> cases hb
  rename_i hl
  obtain ⟨k, h₁, h₂⟩ := h vs (q.length.trans hl)
  exact BindsTo.of_defaults (s := s) hd (w.base _ _ (X _ _ ho) nx) rfl h₁ h₂ _ _ _ _ (hQ F s vs (Step.refl w) q)
theorem zkk {fd : FuncData} {fn : Fn} {x y : Str} (hva : fn.va = true) (hnp : fn.np = 1) (hbd : ∀ v r, bindArgs fd ⟨v :: r, []⟩ = (do let t ← newTuple r; pure [(x, v), (y, t)])) : BindOK cx fd fn [x, y] := by
  intro A F s vs args ds ok w q hb Q E hQ
  unfold boundTo at hb
  rw [hva, hnp] at hb
  simp only [if_true] at hb
  split at hb <;> cases hb
  rename_i hl
  cases q with
  | nil => simp at hl
  | @cons v vs d ds hv hvs =>
    rw [hbd]
    have hz : vs.length ≤ lim := by
      rw [hvs.length]
      have := hl.2
      rw [List.length_cons] at this
      omega
    refine wpAny_bind (wpAny_newTuple ?_ (zaA hz))
    refine wpAny_pure ?_
    obtain ⟨F3, st3, r⟩ := zfA ok w s.toks hz hvs
    exact hQ F3 _ [v, _] st3 (.cons (st3.rep w hv) (.cons r .nil))
end
noncomputable def fnOKb (ε : Sc) (fn : Fn) (ps : List Str) : Bool :=
  decide (ps.length = fn.np + (if fn.va then 1 else 0)) && decide ps.Nodup && (ps.zipIdx.all fun y => ε.vars.lookup y.1 == some y.2) && (ε.vars.all fun y => ε.kinds.lookup y.1 == some .local || ε.kinds.lookup y.1 == some .cell) && decide (ε.vars.map (·.2)).Nodup
theorem zjs {l : List (Str × Nat)} (h : (l.map (·.2)).Nodup) {x y : Str} {i : Nat} (h1 : (x, i) ∈ l) (h2 : (y, i) ∈ l) : x = y := by
  induction l with
  | nil => cases h1
  | cons z r ih =>
    rw [List.map_cons] at h
    obtain ⟨n1, n2⟩ := List.nodup_cons.mp h
    rcases List.mem_cons.mp h1 with e1 | h1
    · rcases List.mem_cons.mp h2 with e2 | h2
      · rw [← e2] at e1; exact congrArg Prod.fst e1
      · exact (n1 (List.mem_map.mpr ⟨_, h2, by rw [← e1]⟩)).elim
    · rcases List.mem_cons.mp h2 with e2 | h2
      · exact (n1 (List.mem_map.mpr ⟨_, h1, by rw [← e2]⟩)).elim
      · exact ih n2 h1 h2
theorem FnIs.ofK {cx : XCx} {K : Frag} (X : K.In cx.h0) {ε : Sc} {i : Nat} {a : Addr} {fn : Fn} {body : List Stmt} {ps : List Str} {oc : Value} {od : Option Addr} {osl : Array (Option Value)} {name : Str} {params : Arguments} {scope : Scope} {dV kV doc pm ct : Value} {c : Addr} {an : Option Addr}
    (ha : cx.fa i = a) (nx : ¬ cx.X a) (ho : K.lookup a = some ⟨oc, od, .func (fnOf name name params body scope dV kV doc pm an (.ref c) ct), osl⟩) (hcd : codeIn K (.ref c) name = true) (ncx : ¬ cx.X c) (hc : ∀ c' q, ε.code = some (c', q) → (.ref c : Value) = .ref c' ∧ name ++ ".<locals>." = q)
    (hb : BindOK cx (fnOf name name params body scope dV kV doc pm an (.ref c) ct) fn ps) (names : scope.names = ε.kinds) (co : scope.isCoroutine = false) (gen : scope.isGenerator = false) (kind : scope.kind = .function) (h : fnOKb ε fn ps = true) :
    FnIs cx ε i fn (fnOf name name params body scope dV kV doc pm an (.ref c) ct) body ps := by
  unfold fnOKb at h
  simp only [Bool.and_eq_true, decide_eq_true_eq, List.all_eq_true, Bool.or_eq_true, beq_iff_eq] at h
  obtain ⟨⟨⟨⟨h1, h2⟩, h3⟩, h4⟩, h5⟩ := h
  refine ⟨⟨_, by rw [ha]; exact X _ _ ho, rfl⟩, by rw [ha]; exact nx, ⟨c, rfl, ncx, codeRec_of X hcd⟩, rfl, hc, rfl, rfl, rfl, co, gen, kind, names, hb, fun args ds e => ?_, h2, fun k x e => ?_, fun x j e => h4 (x, j) (zaX e), ⟨fun x y i ex ey => zjs h5 (zaX ex) (zaX ey)⟩⟩
  · unfold boundTo at e
    split at e
    · rename_i hva
      split at e <;> cases e
      rename_i hl
      rw [h1, if_pos hva, List.length_append, List.length_take, List.length_singleton, Nat.min_eq_left hl.1]
    · rename_i hva
      split at e <;> cases e
      rename_i hl
      rw [h1, if_neg hva, hl]; rfl
  · have : (x, k) ∈ ps.zipIdx := List.mem_zipIdx_iff_getElem?.mpr (by simpa using e)
    exact h3 _ this
noncomputable abbrev mkCx (prog : Program) (w : World) (h₁ : Heap) (c P : Addr) (qs : List (Pos × PySem.Str)) (mg mb : Str → Option Value) (fa : Nat → Addr) (T : Nat → Addr) : XCx :=
  { prog := prog, w := w, h0 := ghostOf h₁ [(c, P)], X := fun a => a = P, XI := fun _ => True, T := T, mg := mg, mb := mb, fa := fa, XF := TabXF c P qs }
section
variable {prog : Program} {w : World} {h₁ : Heap} {c P : Addr} {qs : List (Pos × PySem.Str)} {mg mb : Str → Option Value} {fa : Nat → Addr} {p : Program} {loose : List Str} {mean : ExcName → Option Value} {K : Frag}
theorem ziz (c : Addr) : (ghostOf h₁ [(c, P)]).get? P = none := hideAll_none _ (by simp)
theorem zd2 {a : Addr} {o : Obj} (e : (ghostOf h₁ [(c, P)]).get? a = some o) : a ≠ P := fun q => by rw [q, ziz c] at e; cases e
theorem zhU {a : Addr} {o : Obj} (e : (ghostOf h₁ [(c, P)]).get? a = some o) : h₁.get? a = some o := of_hideAll _ e
theorem ns_at {h : Heap} {a : Addr} {m : Str → Option Value} (x : h.Ns a m) : ∃ o, h.get? a = some o := let ⟨o, _, _, e, _⟩ := x; ⟨o, e⟩
theorem ziy (hT : TabsAt [(c, P)] h₁) (N : h₁.NoSeer) : (ghostOf h₁ [(c, P)]).NoSeer where
  statics := let ⟨mc, a, b⟩ := N.statics; ⟨mc, ghost_ns hT a, b⟩
  mods := let ⟨mc, a, b⟩ := N.mods; ⟨mc, ghost_ns hT a, b⟩
  imp := let ⟨mc, a, b⟩ := N.imp; ⟨mc, ghost_ns hT a, b⟩
  main := let ⟨mg, bm, ob, a, b, c, d, e⟩ := N.main; ⟨mg, bm, ob, ghost_ns hT a, b, ghost_get hT c (fun q => by rw [q] at d; cases d), d, e⟩
theorem ns_none {K : Frag} {h : Heap} {a : Addr} {m : Str → Option Value} {n : Str} (X : K.In h) (G : h.Ns a m) (e : nsIn K a n = some none) : m n = none := by
  obtain ⟨o, es, ep, ho, hd, _, hf⟩ := G
  unfold nsIn at e
  split at e
  · rename_i c d es' n' sl q
    have := X _ _ q
    rw [ho] at this
    cases this
    cases hd
    split at e
    · cases e
    · rename_i he
      rw [← hf]
      unfold nsFind findBy
      rw [← Array.find?_toList, he]
      rfl
  · cases e
theorem cxOk_of (hT : TabsAt [(c, P)] h₁) (X : K.In (ghostOf h₁ [(c, P)])) (T1 : Top p loose mean mg mb h₁) (hi : importsNone p = true) (htree : prog.given.tree = none) (hnb : nsIn K cStatics sharingNotToldKey = some none) {T : Nat → Addr} (tinj : ∀ i j, T i = T j → i = j) :
    CxOk (mkCx prog w h₁ c P qs mg mb fa T) := by
  have nP : ∀ {a : Addr} {m : Str → Option Value}, (ghostOf h₁ [(c, P)]).Ns a m → ¬ a = P := fun x => let ⟨_, e⟩ := ns_at x; zd2 e
  have g := ghost_ns hT T1.g
  have b := ghost_ns hT T1.b
  obtain ⟨mc, s1, s2⟩ := T1.nolimit
  have s := ghost_ns hT s1
  exact ⟨fun F F' h h' x hF hk => x.mono hF hk, g, nP g, b, nP b, T1.builtins, ⟨mc, s, s2⟩, nP s, fun h hk => (ziy hT (T1.seer hi)).keeps fun a o e => hk a o e (zd2 e), htree, ⟨mc, s, ns_none X s hnb⟩, tinj⟩
theorem wd_of (hT : TabsAt [(c, P)] h₁) {s : Shared} (hs : s.heap = h₁) (hg : s.gens = #[]) {T : Nat → Addr} : Wd (mkCx prog w h₁ c P qs mg mb fa T) (fun a => ∃ o, (ghostOf h₁ [(c, P)]).get? a = some o) s := by
  subst hs
  obtain ⟨hc, ht⟩ := hT _ List.mem_cons_self
  have C := (ghost_code hT).1
  refine ⟨fun a o e _ => zhU e, ⟨?_, hc, #[], ht, trivial, fun pos q _ cv e => by cases e⟩, by rw [hg]; intro g h; simp at h, fun a o e _ => ⟨o, e⟩, fun a ⟨o, e⟩ => ⟨o, zhU e⟩, fun a ⟨o, e⟩ => zd2 e, fun a e => by subst e; exact ⟨_, ht⟩⟩
  obtain ⟨o, _, _, _, _, _, _, _, _, e, _⟩ := C
  exact ⟨o, e⟩
noncomputable def lamG_of (hT : TabsAt [(c, P)] h₁) (T1 : Top p loose mean mg mb h₁) {T : Nat → Addr} (hq : qs.Pairwise fun a b => a.1.line ≠ b.1.line ∨ a.1.col ≠ b.1.col) : LamG (mkCx prog w h₁ c P qs mg mb fa T) :=
  { c := c, Pt := P, qs := qs, xf := rfl, xp := fun _ => Iff.rfl, apart := hq, blt := by
      obtain ⟨bm, ob, b1, b2, b3, b4, b5, b6⟩ := T1.bmain
      have gb : (ghostOf h₁ [(c, P)]).get? bm = some ob := ghost_get hT b3 fun q => by rw [q] at b4; cases b4
      refine ⟨bm, ob, b1, b2, fun e => ?_, zd2 gb, gb, b4, b5, b6⟩
      obtain ⟨o, es, ep, ho, hd, _⟩ := T1.g
      rw [e, ho] at b3
      cases b3
      rw [hd] at b6; cases b6 }
noncomputable def tabKeys (es : Array DictEntry) : Bool := es.toList.all fun e => match e.key with | .int k _ => e.hash == hashInt k | _ => false
noncomputable def tabVals (es : Array DictEntry) : Bool := (List.range 128).all fun c => match findBy Value.isInt es (c : Int) with
  | some (.str x _) => special.contains c && x == ⟨#[92, c]⟩
  | none => !special.contains c
  | _ => false
theorem tabG_of {cx : XCx} (X : K.In cx.h0) {d : Addr} {es : Array DictEntry} {n : Nat} (nx : ¬ cx.X d) (hl : K.lookup d = some ⟨.type "dict", none, .dict es n, #[]⟩) (sys : (d == sysModules) = false) (hk : tabKeys es = true) (hv : tabVals es = true) : ∃ G : TabG cx, G.d = d := by
  unfold tabKeys at hk
  rw [List.all_eq_true] at hk
  unfold tabVals at hv
  rw [List.all_eq_true] at hv
  refine ⟨{ d := d, f := fun k => findBy Value.isInt es k, nx := nx, hm := ⟨_, es, n, X _ _ hl, ⟨rfl, rfl, rfl⟩, rfl, fun e he => ?_, fun _ => rfl⟩, sys := sys, yes := fun c hc hs => ?_, no := fun c hc hs => ?_ }, rfl⟩
  · have := hk e (Array.mem_toList_iff.mpr he)
    split at this
    · rename_i k t e1
      exact ⟨k, by rw [e1]; simp [intKind, Value.isInt], (by simpa using this : e.hash = hashInt k)⟩
    · cases this
  · have := hv c (List.mem_range.mpr hc)
    split at this
    · rename_i x t e1
      simp only [Bool.and_eq_true, beq_iff_eq] at this
      exact ⟨t, by rw [e1, this.2]⟩
    · rw [hs] at this; cases this
    · cases this
  · have := hv c (List.mem_range.mpr hc)
    split at this
    · rw [hs] at this; cases this
    · assumption
    · cases this
end
section
variable {cx : XCx}
theorem zkf {ε : Sc} {i : Nat} {fn : Fn} {fd : FuncData} {body : List Stmt} {ps : List Str} (X : FnIs cx ε i fn fd body ps) (ok : CxOk cx) {n : Nat}
    {args : List D} {ρ : List Slot} (hb : bindD fn args = some ρ)
    {A : Around} {F : Addr → Prop} {s : Shared} {vs : List Value} (bud : Bud (n + 1) A) (w : Wd cx F s) (q : RepL cx.T F s.heap vs args) {Rs : Result → Shared → Prop}
    (k : ∀ (A' : Around) (env : Env) (F₁ : Addr → Prop) (s₂ : Shared) (m cm : Str → Option Value) (Q : Flow → Shared → Prop) (E : Value → Shared → Prop), BudE n A' → Wd cx F₁ s₂ → s₂.os = s.os → Frm cx ε env F₁ s₂ ρ (fun _ => 0) m cm → (∀ v s', Rs (.ok (.ret v)) s' → Q (.ret v) s') →
      wpAny (model cx.prog cx.w) A' (execs body env) Q E s₂) : codeAny (model cx.prog cx.w) A (.call (.ref (cx.fa i)) ⟨vs, []⟩) Rs s := by
  obtain ⟨ob, g, hfd⟩ := X.obj
  obtain ⟨c, hcode, ncx, hcd⟩ := X.code
  obtain ⟨ds, kk, hbd, rfl⟩ := zez hb
  have hroom : A.depth < recursionLimit := Nat.lt_of_le_of_lt (Nat.le_add_right _ _) (Nat.lt_trans bud.dp (by decide))
  refine codeAny_call_function hroom (w.base _ _ g X.nx) hfd X.co X.gen X.body (by rw [hcode]; exact hcd.at fun o e => w.base _ o e ncx) ?_
  refine X.bind A.in1 F s vs args ds ok w q hbd _ _ fun F₁ s₁ vs' st₁ q₁ => ?_
  rw [X.clo]
  have hlen : ds.length = ps.length := X.len _ _ hbd
  have hvl : vs'.length = ps.length := q₁.length.trans hlen
  have kindOf : ∀ x, (callEnvC fd s₁.heap.objs.size (cx.fa i)).kindOf x = ε.kinds.lookup x := fun x => by show fd.scope.names.lookup x = _; rw [X.names]
  have inps : ∀ x ∈ ps, ∃ k, ps[k]? = some x := fun x hx => by
    obtain ⟨k, hk, e⟩ := List.mem_iff_getElem.mp hx
    exact ⟨k, by rw [List.getElem?_eq_getElem hk, e]⟩
  have hkind : ∀ x ∈ ps.zip vs', fd.scope.names.lookup x.1 = some .local ∨ (fd.scope.names.lookup x.1 = some .cell ∧ ((cellsFrom (s₁.heap.objs.size + 1) fd.scope.names []).lookup x.1).isSome = true) := by
    intro x hx
    obtain ⟨k, hk⟩ := inps x.1 (List.of_mem_zip hx).1
    rw [X.names]
    rcases X.vk x.1 k (X.pv k x.1 hk) with h | h
    · exact .inl h
    · exact .inr ⟨h, za6 (.inr (zaX h))⟩
  refine wpAny_newFunctionEnv_cells X.kind hkind fun env hen s₂ ic => ?_
  have hen' : env = callEnvC fd s₁.heap.objs.size (cx.fa i) := hen
  subst hen'
  obtain ⟨h₂, tk₂, rfl⟩ := ic.toInCall.same
  have keep₂ := ic.toInCall.keep
  have st₂ : Step cx F₁ s₁ F₁ { s₁ with heap := h₂, toks := tk₂ } := Step.grown ok st₁.wd tk₂ keep₂
  have w₂ := st₂.wd
  refine ⟨w₂.lim ok, codeAny_func ?_⟩
  let E₀ : Env := callEnvC fd s₁.heap.objs.size (cx.fa i)
  let m₀ : Str → Option Value := bindL E₀.kindOf (ps.zip vs') fun _ => none
  let cm₀ : Str → Option Value := bindC E₀.kindOf (ps.zip vs') fun _ => none
  have frL : s₁.heap.get? s₁.heap.objs.size = none := zaz _
  have frC : ∀ n c, E₀.cells.lookup n = some c → s₁.heap.get? c = none ∧ c ≠ s₁.heap.objs.size := fun n c hc => by
    have hlt : s₁.heap.objs.size < c := ic.above n c (mem_of_lookup hc)
    refine ⟨?_, Nat.ne_of_gt hlt⟩
    cases e : s₁.heap.get? c with
    | none => rfl
    | some o => exact absurd (Heap.lt_size e) (Nat.not_lt.mpr (Nat.le_of_lt hlt))
  have noOwn : ∀ j l, slotAt (ds.map Slot.val ++ List.replicate kk .unset) j ≠ .own l := fun j l e => by
    rw [zbR] at e
    split at e <;> cases e
  have fresh₀ : ∀ a, Mut E₀ (ds.map Slot.val ++ List.replicate kk .unset) (fun _ => 0) a → s₁.heap.get? a = none := fun a h => by
    rcases h with rfl | ⟨n, hn⟩ | ⟨j, l, hj, _⟩
    · exact frL
    · exact (frC n a hn).1
    · exact absurd hj (noOwn j l)
  have slots : ∀ x j, ε.vars.lookup x = some j → (ε.kinds.lookup x = some .local ∧ SlotRep cx F₁ h₂ (fun _ => 0) j (m₀ x) (slotAt (ds.map Slot.val ++ List.replicate kk .unset) j)) ∨
      ((ε.kinds.lookup x = some .cell ∨ ε.kinds.lookup x = some .free) ∧ (∃ c, E₀.cells.lookup x = some c) ∧ SlotRep cx F₁ h₂ (fun _ => 0) j (cm₀ x) (slotAt (ds.map Slot.val ++ List.replicate kk .unset) j)) := by
    intro x j hx
    have look : ∀ dj, ds[j]? = some dj → ps[j]? = some x ∧ ∃ v, vs'[j]? = some v ∧ Rep cx.T F₁ h₂ v dj := fun dj hj => by
      obtain ⟨v, hv, r⟩ := q₁.get hj
      have hlt : j < ps.length := by rw [← hlen]; exact (List.getElem?_eq_some_iff.mp hj).1
      have hp : ps[j]? = some ps[j] := List.getElem?_eq_getElem hlt
      have := X.sc.inj x ps[j] j hx (X.pv j _ hp)
      exact ⟨by rw [hp, this], v, hv, st₂.rep st₁.wd r⟩
    rw [zbR]
    rcases X.vk x j hx with hk | hk
    · left
      refine ⟨hk, ?_⟩
      split
      · rename_i dj hj
        obtain ⟨hp, v, hv, r⟩ := look dj hj
        have : m₀ x = some v := zfW (by rw [kindOf]; exact hk) X.nodup hp hv
        rw [this]
        exact .val r
      · exact .unset
    · right
      refine ⟨.inl hk, ?_, ?_⟩
      · refine Option.isSome_iff_exists.mp (za6 (.inr ?_))
        rw [X.names]
        exact zaX hk
      · split
        · rename_i dj hj
          obtain ⟨hp, v, hv, r⟩ := look dj hj
          have : cm₀ x = some v := zfX (by rw [kindOf, hk]; intro e; cases e) X.nodup hp hv
          rw [this]
          exact .val r
        · exact .unset
  have fr : Frm cx ε E₀ F₁ { s₁ with heap := h₂, toks := tk₂ } (ds.map Slot.val ++ List.replicate kk .unset) (fun _ => 0) m₀ cm₀ := by
    refine ⟨⟨X.kind, X.names, X.glob, X.blt, X.codeAt, st₁.wd.newNotX frL, fun n c hc => st₁.wd.newNotX (frC n c hc).1, ic.toInCall.ns, ic.cell, slots⟩, st₁.wd.newNotF frL, fun n c hc => ⟨st₁.wd.newNotF (frC n c hc).1, (frC n c hc).2⟩, fun n n' c h h' => name_of_addr ic.apart (mem_of_lookup h) (mem_of_lookup h'), fun j _ l _ h => absurd h (noOwn j l), fun j l h => absurd h (noOwn j l)⟩
  have budE : BudE n (A.deeper E₀) := by
    obtain ⟨l, hl⟩ := bud.fs
    refine ⟨⟨bud.hd, zlC bud.dp, zlA bud.un, ⟨_, by show A.frames.map _ = _; rw [hl]; rfl⟩⟩, zlB bud.un, E₀, l, by show A.frames.map _ = _; rw [hl]; rfl, X.gen, X.co, X.blt, X.glob⟩
  exact k (A.deeper E₀) E₀ F₁ _ m₀ cm₀ _ _ budE w₂ (st₁.os) fr fun v s' h => h
end
theorem repInts {T T' : Nat → Addr} {F F' : Addr → Prop} {h : Heap} (hF : ∀ a, F a → F' a) {ns : List Int} : ∀ {vs : List Value}, RepL T F h vs (ns.map .int) → RepL T' F' h vs (ns.map .int) := by
  induction ns with
  | nil => intro vs q; cases q; exact .nil
  | cons i ns ih =>
    intro vs q
    cases q with
    | cons a r =>
      generalize hd : D.int i = d at a
      cases a <;> cases hd
      exact .cons (.int _ _) (ih r)
theorem zi6 {T T' : Nat → Addr} {F F' : Addr → Prop} {h : Heap} (hF : ∀ a, F a → F' a) {ns : List Int} {v : Value} (r : Rep T F h v (.list (ns.map .int))) : Rep T' F' h v (.list (ns.map .int)) := by
  cases r with
  | list f g z q => exact .list (hF _ f) g z (repInts hF q)
theorem Frm.retok {cx : XCx} {T' : Nat → Addr} {ε : Sc} {env : Env} {F : Addr → Prop} {s : Shared} {ρ ρ' : List Slot} {ad : Nat → Addr} {m cm : Str → Option Value} (ok : CxOk cx) (w : Wd cx F s) (f : Frm cx ε env F s ρ ad m cm)
    (h : ∀ j, (∃ k, slotAt ρ j = .own [.str (tokC k)] ∧ slotAt ρ' j = .val (.tok k) ∧ T' k = ad j) ∨ ((slotAt ρ j = .unset ∨ ∃ ns : List Int, slotAt ρ j = .val (.list (ns.map .int))) ∧ slotAt ρ' j = slotAt ρ j)) :
    Wd { cx with T := T' } (fun a => F a ∨ ∃ j l, slotAt ρ j = .own l ∧ a = ad j) s ∧ Frm { cx with T := T' } ε env (fun a => F a ∨ ∃ j l, slotAt ρ j = .own l ∧ a = ad j) s ρ' ad m cm := by
  have hsub : ∀ a, F a → (F a ∨ ∃ j l, slotAt ρ j = .own l ∧ a = ad j) := fun _ h => .inl h
  have noOwn : ∀ j l, slotAt ρ' j ≠ .own l := fun j l e => by
    rcases h j with ⟨k, _, e2, _⟩ | ⟨e1, e2⟩
    · rw [e2] at e; cases e
    · rw [e2] at e
      rcases e1 with e1 | ⟨ns, e1⟩ <;> rw [e1] at e <;> cases e
  have slots : ∀ j ov, SlotRep cx F s.heap ad j ov (slotAt ρ j) → SlotRep { cx with T := T' } (fun a => F a ∨ ∃ j l, slotAt ρ j = .own l ∧ a = ad j) s.heap ad j ov (slotAt ρ' j) := by
    intro j ov q
    rcases h j with ⟨k, e1, e2, e3⟩ | ⟨e1, e2⟩
    · rw [e2]
      generalize hsl : slotAt ρ j = sl at q
      rw [e1] at hsl
      subst hsl
      cases q with
      | own nf nx g z q =>
        cases q with
        | cons q1 q2 =>
          cases q2
          cases q1 with
          | str t p z' =>
            rw [← e3]
            exact .val (Rep.tok (T := T') (k := k) (.inr ⟨j, _, e1, e3⟩) (e3 ▸ g))
    · rw [e2]
      rcases e1 with e1 | ⟨ns, e1⟩
      · rw [e1]; exact .unset
      · rw [e1] at q ⊢
        cases q with
        | val q => exact .val (zi6 hsub q)
  refine ⟨⟨w.base, ok.xi _ _ _ _ w.xi hsub (fun _ _ _ e => e), w.gens, fun a o e nx => .inl (w.f0 a o e nx), fun a h => ?_, fun a h => ?_, w.xex⟩,
    ⟨⟨f.en.kind, f.en.names, f.en.glob, f.en.blt, f.en.code, f.en.lx, f.en.cxx, f.en.ns, f.en.cells, fun y j hy => (f.en.vars y j hy).imp (fun ⟨k, q⟩ => ⟨k, slots j _ q⟩) fun ⟨k, c, q⟩ => ⟨k, c, slots j _ q⟩⟩,
      fun h => ?_, fun n c hc => ⟨fun h => ?_, (f.cf n c hc).2⟩, f.cinj, fun i j l _ e => absurd e (noOwn i l), fun i l e => absurd e (noOwn i l)⟩⟩
  · rcases h with h | ⟨j, l, e, rfl⟩
    · exact w.lt a h
    · obtain ⟨_, _, ⟨vs, n, g⟩, _⟩ := f.own j l e
      exact ⟨_, g⟩
  · rcases h with h | ⟨j, l, e, rfl⟩
    · exact w.nx a h
    · exact (f.own j l e).2.1
  · rcases h with h | ⟨j, l, e, q⟩
    · exact f.lf h
    · exact (f.own j l e).2.2.2.1 q.symm
  · rcases h with h | ⟨j, l, e, q⟩
    · exact (f.cf n c hc).1 h
    · exact (f.own j l e).2.2.2.2 n (q ▸ hc)
noncomputable def tokA (a : Nat) (k : Nat) : Nat := if k = 0 then a else a + k
theorem zku (a : Nat) : ∀ i j, tokA a i = tokA a j → i = j := by
  intro i j e
  unfold tokA at e
  split at e <;> split at e <;> omega
noncomputable abbrev XCx.withT (cx : XCx) (T : Nat → Addr) : XCx := { cx with T := T }
noncomputable def PlainRho (ρ : List Slot) : Prop := ∀ j, slotAt ρ j = .unset ∨ ∃ ns : List Int, slotAt ρ j = .val (.list (ns.map .int))
noncomputable def Inj (T : Nat → Addr) : Prop := ∀ i j, T i = T j → i = j
noncomputable abbrev newTok (i : Nat) (k : Nat) : S := .assignO i (.list (.cons (.const (.str (tokC k))) .nil))
theorem zj4 {cf : Nat → List D → Option D} {i k : Nat} {ρ : List Slot} (h : noApp i ρ = true) : ex cf (newTok i k) ρ = some (ρ.set i (.own [.str (tokC k)]), .next) := by
  unfold newTok
  rw [zcT, h, if_pos rfl]
  rfl
theorem zk4 {cx : XCx} (hcx : ∀ T, Inj T → CxOk (cx.withT T)) {ε : Sc} {i i1 : Nat} {fn : Fn} {fd : FuncData} {st1 : Stmt} {rest : List Stmt} {ps : List Str} {sx : S} {n : Nat} {cf : Nat → List D → Option D} (X : ∀ T, FnIs (cx.withT T) ε i fn fd (st1 :: rest) ps)
    (hc : ∀ T, Inj T → CallOK (cx.withT T) n cf) (h1 : ∀ T, SoundS (cx.withT T) ε st1 (newTok i1 0)) (hs : ∀ T, Inj T → SoundSs (cx.withT T) ε rest sx)
    {ns : List Int} {ρ ρ' : List Slot} (hb : bindD fn [.list (ns.map .int)] = some ρ) (hp : PlainRho ρ) (hn : noApp i1 ρ = true) (hl : i1 < ρ.length)
    (he : ex cf sx (ρ.set i1 (.val (.tok 0))) = some (ρ', .ret (.bool true)))
    {A : Around} {F : Addr → Prop} {s : Shared} {v : Value} (bud : Bud (n + 1) A) (w : Wd cx F s) (q : Rep cx.T F s.heap v (.list (ns.map .int))) {Rs : Result → Shared → Prop}
    (hR : ∀ T F' s', Wd (cx.withT T) F' s' → s'.os = s.os → Rs (.ok (.ret (.bool true))) s') : codeAny (model cx.prog cx.w) A (.call (.ref (cx.fa i)) ⟨[v], []⟩) Rs s := by
  have inj0 : Inj (fun k : Nat => (k : Addr)) := fun i j e => e
  have ok0 := hcx _ inj0
  have w0 : Wd (cx.withT fun k : Nat => (k : Addr)) F s := ⟨w.base, w.xi, w.gens, w.f0, w.lt, w.nx, w.xex⟩
  refine zkf (cx := cx.withT fun k : Nat => (k : Addr)) (X fun k : Nat => (k : Addr)) ok0 hb bud w0 (.cons (zi6 (fun _ h => h) q) .nil) fun A' env F₁ s₂ m cm Q E budE w₂ os fr hQ => ?_
  refine wpAny_execs_cons ?_
  refine h1 (fun k : Nat => (k : Addr)) n cf A' env F₁ s₂ ρ _ m cm ⟨ok0, (X fun k : Nat => (k : Addr)).sc, hc _ inj0, budE, w₂, fr⟩ _ _ (zj4 hn) _ _ fun f F' s' ad' m' cm' x fr' out => ?_
  cases out
  let T1 : Nat → Addr := tokA (ad' i1)
  have inj1 : Inj T1 := zku _
  have hset : ∀ j, slotAt (ρ.set i1 (.own [.str (tokC 0)])) j = if j = i1 then .own [.str (tokC 0)] else slotAt ρ j := fun j => by rw [zaW, if_pos hl]
  have hset' : ∀ j, slotAt (ρ.set i1 (.val (.tok 0))) j = if j = i1 then .val (.tok 0) else slotAt ρ j := fun j => by rw [zaW, if_pos hl]
  obtain ⟨w1, f1⟩ := fr'.retok (T' := T1) (ρ' := ρ.set i1 (.val (.tok 0))) ok0 x.wd fun j => by
    rw [hset, hset']
    by_cases hj : j = i1
    · subst hj
      rw [if_pos rfl, if_pos rfl]
      exact .inl ⟨0, rfl, rfl, rfl⟩
    · rw [if_neg hj, if_neg hj]
      exact .inr ⟨hp j, rfl⟩
  refine hs T1 inj1 n cf A' env _ s' _ ad' m' cm' ⟨hcx _ inj1, (X T1).sc, hc _ inj1, budE, w1, f1⟩ ρ' _ he _ _ fun f F'' s'' ad'' m'' cm'' x' fr'' out' => ?_
  cases out' with
  | ret r =>
    cases r
    exact hQ _ _ (hR T1 F'' s'' x'.wd (x'.os.trans (x.os.trans os)))
theorem zcd {β : Type} {p : Nat → Bool} {x : Nat} {j : β} : ∀ {l : List (Nat × β)}, (l.filter fun y => p y.1).lookup x = some j → l.lookup x = some j ∧ p x = true
  | [], e => by cases e
  | (y, b) :: r, e => by
    rw [List.filter_cons] at e
    split at e
    · rename_i hp
      rw [List.lookup_cons] at e ⊢
      cases hx : x == y with
      | true =>
        rw [hx] at e
        exact ⟨e, by rw [beq_iff_eq.mp hx]; exact hp⟩
      | false =>
        rw [hx] at e
        exact zcd e
    · rename_i hp
      obtain ⟨h1, h2⟩ := zcd e
      refine ⟨?_, h2⟩
      rw [List.lookup_cons]
      cases hx : x == y with
      | true => rw [beq_iff_eq.mp hx] at h2; exact absurd h2 hp
      | false => exact h1
noncomputable abbrev dropK (P : Addr) (K : Frag) : Frag := K.filter fun y => (fun a : Nat => a != P) y.1
theorem zgv {K : Frag} {h₁ : Heap} {c P : Addr} (X : K.In h₁) : (dropK P K).In (ghostOf h₁ [(c, P)]) := fun a o e => by
  obtain ⟨h1, h2⟩ := zcd (p := fun a : Nat => a != P) e
  exact hideAll_get _ (X a o h1) (by simpa using h2)
theorem gn_of {cx : XCx} {fs : List (Str × Nat)} {bs : List Str} (h1 : ∀ p ∈ fs, cx.mg p.1 = some (.ref (cx.fa p.2))) (h2 : ∀ x ∈ bs, cx.mg x = none) : GN cx fs bs := ⟨fun x i h => h1 (x, i) h, h2⟩
theorem zhR {T : Nat → Addr} {F : Addr → Prop} {h : Heap} : ∀ {vs : List Value} {ns : List Int}, IntsAre vs ns → RepL T F h vs (ns.map .int)
  | _, _, .nil => .nil
  | _, _, .cons n t r => .cons (.int n t) (zhR r)
theorem zjV {prog : Program} {w : World} {c P : Addr} {qs : List (Pos × PySem.Str)} {mg mb : Str → Option Value} {fa : Nat → Addr} {T : Nat → Addr} {cw : ClaimW} {cl : Str → Option Addr} {mean : ExcName → Option Value} {args : List WData} {s₁ s' : Shared} {F' : Addr → Prop}
    (hT : TabsAt [(c, P)] s₁.heap) (hr : ∀ x, cw.raises args x = false) (hp : cw.post args (.bool true) args = true) (wd : Wd (mkCx prog w s₁.heap c P qs mg mb fa T) F' s') (os : s'.os = s₁.os) : GoodWG cw cl mean args s₁ (.ok (.ret (.bool true))) s' := by
  obtain ⟨hc, ht⟩ := hT _ List.mem_cons_self
  obtain ⟨_, _, ps, hP, _⟩ := wd.xi
  refine ⟨.inl ⟨.bool true, .bool true, [], rfl, hr, .bool true, hp, fun _ => ⟨List.nodup_nil, fun a h => nomatch h⟩⟩, ⟨fun b o e => ?_, fun b o e => ?_⟩, os, wd.gens⟩
  · by_cases hb : b = P
    · subst hb
      have e2 : o = tabObj #[] := Option.some.inj (e.symm.trans ht)
      subst e2
      exact .inr (.inl ⟨(hc.tab ht).isCodeTable, rfl, #[], ps, rfl, by rw [Array.empty_append]; exact hP⟩)
    · exact .inl (wd.base b o (ghost_ne e (by simpa using hb)) hb)
  · by_cases hb : b = P
    · subst hb
      exact ⟨_, hP⟩
    · exact ⟨o, wd.base b o (ghost_ne e (by simpa using hb)) hb⟩
end Mine
end
section
open PySem PySem.Calls PyProof.Rows PySem.Builtin.Str
namespace Mine
section
variable {cx : XCx} {ε : Sc}
theorem zi5 {T : Nat → Addr} {F : Addr → Prop} {h : Heap} : ∀ {vs : List Value} {ds : List D}, vs.length = ds.length → (∀ (i : Nat) v d, vs[i]? = some v → ds[i]? = some d → Rep T F h v d) → RepL T F h vs ds
  | [], [], _, _ => .nil
  | v :: vs, d :: ds, hl, hp => .cons (hp 0 v d rfl rfl) (zi5 (by simpa using hl) fun i v d h1 h2 => hp (i + 1) v d h1 h2)
  | [], _ :: _, hl, _ => by simp at hl
  | _ :: _, [], hl, _ => by simp at hl
theorem zfM {A : Around} (hh : A.handled = none) {F₀ F : Addr → Prop} {s₀ s : Shared} (ok : CxOk cx) (st : Step cx F₀ s₀ F s) {r : Addr} {a b c : Int} {t u v : Tok} (hr : IsRange s.heap r a b c t u v) (hs : Builtin.Range.small a b c = true)
    {k : Nat} (hk : Builtin.Range.rangeSize a b c = (k : Int)) (hl : k ≤ lim) {Q : Value → Shared → Prop} {E : Value → Shared → Prop} (hQ : Post cx F₀ s₀ (.own ((upTo k a c).map .int)) Q) : wpAny (model cx.prog cx.w) A (call (.type "list") [.ref r]) Q E s := by
  refine call_list_range hh hr hs hk (by unfold lim at hl; omega) fun h' tk acc c' keep hS hacc => ?_
  have hf : s.heap.get? s.heap.objs.size = none := zaz _
  have st' := st.trans (Step.grown ok st.wd tk keep)
  have nx := st.wd.newNotX hf
  refine hQ _ _ _ st' (.own (n := c') (st.fresh nx hf) (st.wd.newNotF hf) nx (vs := acc.toList) (by simpa using hS) (by simp [hacc.1]; exact hl) (zi5 (by simp [hacc.1, upTo]) fun i v d h1 h2 => ?_))
  obtain ⟨tk', rfl⟩ := hacc.2 i v (by simpa using h1)
  have hi : i < k := by
    have := (List.getElem?_eq_some_iff.mp h1).1
    simpa [hacc.1] using this
  have : d = .int (a + i * c) := by
    unfold upTo at h2
    rw [List.map_map, List.getElem?_map, List.getElem?_range hi] at h2
    have := Option.some.inj h2
    rw [← this]
    show D.int (a + c * (i : Int)) = _
    rw [Int.mul_comm]
  rw [this]
  exact .int _ tk'
theorem zis {A : Around} {n : Nat} (hb : BudE n A) {F₀ F : Addr → Prop} {s₀ s : Shared} (ok : CxOk cx) (st : Step cx F₀ s₀ F s) {vs : List Value} {ds : List D} (q : BRepL cx F s.heap vs ds) {l : List D} (hl : opRange ds = some l)
    {Q : Value → Shared → Prop} {E : Value → Shared → Prop} (hQ : Post cx F₀ s₀ (.own l) Q) :
    wpAny (model cx.prog cx.w) A (call (.type "range") vs) (fun v s₁ => wpAny (model cx.prog cx.w) A (call (.type "list") [v]) Q E s₁) E s :=
  ze6 ok st q hl fun r a b c t u v k s' st' hr hs hk hl' e => zfM hb.hd ok st' hr hs hk hl' (e ▸ hQ)
theorem zec {p p' pos' pos : Pos} {es : List Expr} {x : X} (hk : ε.kinds.lookup ("list" : Str) = some .globalImplicit) (hg : cx.mg ("list" : Str) = none) (hk' : ε.kinds.lookup ("range" : Str) = some .globalImplicit) (hg' : cx.mg ("range" : Str) = none) (h : SoundL cx ε es x false) :
    Sound cx ε (.Call (.Name "list" p) [.Call (.Name "range" p') es [] pos'] [] pos) (.op .listOf (.cons (.rangeI x) .nil)) := by
  refine Sound.ofE ?_ fun _ => rfl
  intro n cf A env F s ρ ad m cm H res he Q E hQ
  obtain ⟨rs, e1, e2⟩ := ev_op he
  obtain ⟨r, rs', e3, e4, rfl⟩ := zaR e1
  cases zcr e4
  obtain ⟨ds, l, e5, e6, rfl⟩ : ∃ ds l, ev cf x ρ = some ds ∧ opRange (ds.map R.ds) = some l ∧ r = .val (.list l) := by
    replace e3 := (zaE _).symm.trans e3
    split at e3
    · rename_i ds e
      obtain ⟨l, e7, e8⟩ := Option.map_eq_some_iff.mp e3
      cases e8
      exact ⟨ds, l, e, e7, rfl⟩
    · cases e3
  cases e2
  rw [zay (by intro _ _ _ e; cases e)]
  refine wpAny_bind (zaS H hk hg (by decide) (v := .type "list") (by rfl) (by decide) ?_)
  rw [zar rfl, zax]
  refine PyProof.Rows.callWith_type rfl (Calls.evalArgs_plain (Calls.spliced_cons ?_))
  rw [zay (by intro _ _ _ e; cases e)]
  refine wpAny_bind (zaS H hk' hg' (by decide) (v := .type "range") (by rfl) (by decide) ?_)
  refine PyProof.Rows.callWith_type (zaL h) (za0 h H e5 fun vs F' s' st q => ?_)
  refine wpAny_mono (zis H.bud H.ok st q.brep e6 hQ) (fun v s₁ h₁ => ?_) fun _ _ x => x
  exact Calls.spliced_nil h₁
end
end Mine
end
section
open PySem PySem.Calls PyProof.Rows PySem.Builtin.Str PySem.SeqAt PySem.AutoSeq1 PySem.MeetsSeq PySem.MeetsSeq2 PySem.MeetsSeq3 PySem.SeqRoads2
namespace Mine
inductive StrVs : List Value → List (List Nat) → Prop
  | nil : StrVs [] []
  | cons {l : List Nat} {t : Tok} {vs : List Value} {ls : List (List Nat)} : StrVs vs ls → StrVs (.str ⟨l.toArray⟩ t :: vs) (l :: ls)
theorem zd3 {vs : List Value} {i : Nat} {v : Value} {r : List Value} (h : vs.drop i = v :: r) : vs.toArray[((i : Nat) : Int).toNat]? = some v ∧ vs.drop (i + 1) = r := by
  constructor
  · rw [Int.toNat_natCast, List.getElem?_toArray, ← Nat.add_zero i, ← List.getElem?_drop, h]; rfl
  · rw [← List.drop_drop, h]; rfl
theorem zdh {vs : List Value} {i : Nat} (h : vs.drop i = []) : vs.toArray[((i : Nat) : Int).toNat]? = none := by
  rw [Int.toNat_natCast, List.getElem?_toArray, List.getElem?_eq_none_iff]
  exact List.drop_eq_nil_iff.mp h
theorem zbB {vs : List Value} {i : Nat} {r : List Value} (h : vs.drop i = r) (hi : i ≤ vs.length) : vs.toArray.size = i + r.length := by
  have := congrArg List.length h
  rw [List.length_drop] at this
  rw [List.size_toArray, ← this, Nat.add_sub_cancel' hi]
theorem zj9 (A : Around) (s : Shared) (a b : List Nat) (t u : Tok) : EqAt A s (.str ⟨a.toArray⟩ t) (.str ⟨b.toArray⟩ u) (decide (a = b)) := by
  have h := EqAt.str_str (A := A) (s := s) ⟨a.toArray⟩ t ⟨b.toArray⟩ u
  have e : ((⟨a.toArray⟩ : PySem.Str) == ⟨b.toArray⟩) = decide (a = b) := by
    by_cases q : a = b
    · subst q; simp
    · rw [decide_eq_false q, beq_eq_false_iff_ne]
      intro h; exact q (by simpa using h)
  rwa [e] at h
section
variable {l b : Addr} {vs ws : List Value} {n n2 : Nat}
theorem lt_loop : ∀ (xs ys : List (List Nat)) (i : Nat), StrVs (vs.drop i) xs → StrVs (ws.drop i) ys → i ≤ vs.length → i ≤ ws.length → Meets (Builtin.«list.__eq__.loop» ⟨[.ref l, .ref b, rawInt i, rawInt 0], []⟩)
    (fun A R s => s.heap.get? l = some (lobj vs.toArray n) ∧ s.heap.get? b = some (lobj ws.toArray n2) ∧ R (.ok (.ret (.bool (ltSs xs ys)))) s) := by
  intro xs
  induction xs with
  | nil =>
    intro ys i q1 q2 l1 l2 prog w A R s h
    obtain ⟨hp, g, d, tk, os⟩ := s; obtain ⟨hl, hb, h⟩ := h
    generalize e1 : vs.drop i = r1 at q1
    generalize e2 : ws.drop i = r2 at q2
    cases q1
    have z1 := zbB e1 l1
    have z2 := zbB e2 l2
    wp_walk using wpAny_loadPart' hl, wpAny_loadPart' hb
    rw [zdh e1]
    wp_walk using wpAny_loadPart' hl, wpAny_loadPart' hb
    show R (.ok (.ret (.bool (decide (vs.toArray.size < ws.toArray.size))))) _
    rw [z1, z2]
    cases q2 with
    | nil => rw [decide_eq_false (by simp)]; exact h
    | cons q2 => rw [decide_eq_true (by simp)]; exact h
  | cons x xs ih =>
    intro ys i q1 q2 l1 l2 prog w A R s h
    obtain ⟨hp, g, d, tk, os⟩ := s; obtain ⟨hl, hb, h⟩ := h
    generalize e1 : vs.drop i = r1 at q1
    generalize e2 : ws.drop i = r2 at q2
    cases q1 with | cons q1 =>
    have z1 := zbB e1 l1
    have z2 := zbB e2 l2
    obtain ⟨g1, e1'⟩ := zd3 e1
    cases q2 with
    | nil =>
      wp_walk using wpAny_loadPart' hl, wpAny_loadPart' hb
      rw [g1, zdh e2]
      wp_walk using wpAny_loadPart' hl, wpAny_loadPart' hb
      show R (.ok (.ret (.bool (decide (vs.toArray.size < ws.toArray.size))))) _
      rw [z1, z2, decide_eq_false (by simp)]
      exact h
    | cons q2 =>
      obtain ⟨g2, e2'⟩ := zd3 e2
      wp_walk using wpAny_loadPart' hl, wpAny_loadPart' hb
      rw [g1, g2]
      refine wpAny_bind (zj9 _ _ _ _ _ _ prog w _ _ ?_)
      have hc : ((i : Int) + 1) = ((i + 1 : Nat) : Int) := by push_cast; rfl
      unfold ltSs at h
      rename_i y _ _ _
      by_cases hxy : x = y
      · rw [if_pos hxy] at h
        rw [decide_eq_true hxy]
        wp_walk
        rw [hc]
        refine ⟨plainId_quiet plain_eq_loop _, codeAny_builtin entry_eq_loop ?_⟩
        rw [Around.under_plainId plain_eq_loop _]
        rw [List.length_cons, List.size_toArray] at z1 z2
        exact ih _ (i + 1) (e1' ▸ q1) (e2' ▸ q2) (z1 ▸ Nat.add_le_add_left (Nat.succ_le_succ (Nat.zero_le _)) i) (z2 ▸ Nat.add_le_add_left (Nat.succ_le_succ (Nat.zero_le _)) i) prog w A R _ ⟨hl, hb, h⟩
      · rw [if_neg hxy] at h
        rw [decide_eq_false hxy]
        wp_walk using wpAny_loadPart' hl, wpAny_loadPart' hb
        rw [g1, g2]
        refine wpAny_bind ?_
        exact P.lt_str (wpAny_pure h)
theorem gt_loop : ∀ (xs ys : List (List Nat)) (i : Nat), StrVs (vs.drop i) xs → StrVs (ws.drop i) ys → i ≤ vs.length → i ≤ ws.length → Meets (Builtin.«list.__eq__.loop» ⟨[.ref l, .ref b, rawInt i, rawInt 4], []⟩)
    (fun A R s => s.heap.get? l = some (lobj vs.toArray n) ∧ s.heap.get? b = some (lobj ws.toArray n2) ∧ R (.ok (.ret (.bool (ltSs ys xs)))) s) := by
  intro xs
  induction xs with
  | nil =>
    intro ys i q1 q2 l1 l2 prog w A R s h
    obtain ⟨hp, g, d, tk, os⟩ := s; obtain ⟨hl, hb, h⟩ := h
    generalize e1 : vs.drop i = r1 at q1
    generalize e2 : ws.drop i = r2 at q2
    cases q1
    have z1 := zbB e1 l1
    have z2 := zbB e2 l2
    wp_walk using wpAny_loadPart' hl, wpAny_loadPart' hb
    rw [zdh e1]
    wp_walk using wpAny_loadPart' hl, wpAny_loadPart' hb
    show R (.ok (.ret (.bool (decide (vs.toArray.size > ws.toArray.size))))) _
    rw [z1, z2]
    cases q2 with
    | nil => rw [decide_eq_false (by simp)]; exact h
    | cons q2 => rw [decide_eq_false (by simp)]; exact h
  | cons x xs ih =>
    intro ys i q1 q2 l1 l2 prog w A R s h
    obtain ⟨hp, g, d, tk, os⟩ := s; obtain ⟨hl, hb, h⟩ := h
    generalize e1 : vs.drop i = r1 at q1
    generalize e2 : ws.drop i = r2 at q2
    cases q1 with | cons q1 =>
    have z1 := zbB e1 l1
    have z2 := zbB e2 l2
    obtain ⟨g1, e1'⟩ := zd3 e1
    cases q2 with
    | nil =>
      wp_walk using wpAny_loadPart' hl, wpAny_loadPart' hb
      rw [g1, zdh e2]
      wp_walk using wpAny_loadPart' hl, wpAny_loadPart' hb
      show R (.ok (.ret (.bool (decide (vs.toArray.size > ws.toArray.size))))) _
      rw [z1, z2, decide_eq_true (by simp)]
      exact h
    | cons q2 =>
      obtain ⟨g2, e2'⟩ := zd3 e2
      wp_walk using wpAny_loadPart' hl, wpAny_loadPart' hb
      rw [g1, g2]
      refine wpAny_bind (zj9 _ _ _ _ _ _ prog w _ _ ?_)
      have hc : ((i : Int) + 1) = ((i + 1 : Nat) : Int) := by push_cast; rfl
      unfold ltSs at h
      rename_i y _ _ _
      by_cases hxy : x = y
      · rw [if_pos (Eq.symm hxy)] at h
        rw [decide_eq_true hxy]
        wp_walk
        rw [hc]
        refine ⟨plainId_quiet plain_eq_loop _, codeAny_builtin entry_eq_loop ?_⟩
        rw [Around.under_plainId plain_eq_loop _]
        rw [List.length_cons, List.size_toArray] at z1 z2
        exact ih _ (i + 1) (e1' ▸ q1) (e2' ▸ q2) (z1 ▸ Nat.add_le_add_left (Nat.succ_le_succ (Nat.zero_le _)) i) (z2 ▸ Nat.add_le_add_left (Nat.succ_le_succ (Nat.zero_le _)) i) prog w A R _ ⟨hl, hb, h⟩
      · rw [if_neg (fun e => hxy (Eq.symm e))] at h
        rw [decide_eq_false hxy]
        wp_walk using wpAny_loadPart' hl, wpAny_loadPart' hb
        rw [g1, g2]
        refine wpAny_bind ?_
        exact P.gt_str (wpAny_pure h)
theorem list_lt : Meets (Builtin.«list.__lt__» ⟨[.ref l, .ref b], []⟩) (fun A R s => s.heap.get? l = some (lobj vs.toArray n) ∧ s.heap.get? b = some (lobj ws.toArray n2) ∧ ∃ xs ys, StrVs vs xs ∧ StrVs ws ys ∧ R (.ok (.ret (.bool (ltSs xs ys)))) s) := by
  intro prog w A R s h
  obtain ⟨hp, g, d, tk, os⟩ := s; obtain ⟨hl, hb, xs, ys, q1, q2, h⟩ := h
  have f3 := AutoSeq1.sub_list_list
  wp_walk using wpAny_loadPart' hl, wpAny_loadPart' hb
  refine ⟨plainId_quiet plain_eq_loop _, codeAny_builtin entry_eq_loop ?_⟩
  rw [Around.under_plainId plain_eq_loop _]
  exact lt_loop xs ys 0 q1 q2 (Nat.zero_le _) (Nat.zero_le _) prog w A R _ ⟨hl, hb, h⟩
theorem list_gt : Meets (Builtin.«list.__gt__» ⟨[.ref l, .ref b], []⟩) (fun A R s => s.heap.get? l = some (lobj vs.toArray n) ∧ s.heap.get? b = some (lobj ws.toArray n2) ∧ ∃ xs ys, StrVs vs xs ∧ StrVs ws ys ∧ R (.ok (.ret (.bool (ltSs ys xs)))) s) := by
  intro prog w A R s h
  obtain ⟨hp, g, d, tk, os⟩ := s; obtain ⟨hl, hb, xs, ys, q1, q2, h⟩ := h
  have f3 := AutoSeq1.sub_list_list
  wp_walk using wpAny_loadPart' hl, wpAny_loadPart' hb
  refine ⟨plainId_quiet plain_eq_loop _, codeAny_builtin entry_eq_loop ?_⟩
  rw [Around.under_plainId plain_eq_loop _]
  exact gt_loop xs ys 0 q1 q2 (Nat.zero_le _) (Nat.zero_le _) prog w A R _ ⟨hl, hb, h⟩
theorem rich_lt {prog : Program} {w : World} {A : Around} {E : Value → Shared → Prop} {s : Shared} {Q : Value → Shared → Prop} (hl : s.heap.get? l = some (lobj vs.toArray n)) (hb : s.heap.get? b = some (lobj ws.toArray n2)) {xs ys : List (List Nat)} (q1 : StrVs vs xs) (q2 : StrVs ws ys) (hu : A.units < cLine)
    (h : Q (.bool (ltSs xs ys)) s) : wpAny (model prog w) A (richCompare .Lt (.ref l) (.ref b)) Q E s :=
  richCompare_meets_room (T := "list") ⟨_, hl, rfl⟩ ⟨_, hb, rfl⟩ PySem.F.slot_list_lt PySem.F.entry_list_lt (PySem.F.args_list_lt_2 _ _) list_lt ⟨hl, hb, xs, ys, q1, q2, by simp, h⟩ hu
theorem rich_gt {prog : Program} {w : World} {A : Around} {E : Value → Shared → Prop} {s : Shared} {Q : Value → Shared → Prop} (hl : s.heap.get? l = some (lobj vs.toArray n)) (hb : s.heap.get? b = some (lobj ws.toArray n2)) {xs ys : List (List Nat)} (q1 : StrVs vs xs) (q2 : StrVs ws ys) (hu : A.units < cLine)
    (h : Q (.bool (ltSs ys xs)) s) : wpAny (model prog w) A (richCompare .Gt (.ref l) (.ref b)) Q E s :=
  richCompare_meets_room (T := "list") ⟨_, hl, rfl⟩ ⟨_, hb, rfl⟩ PySem.F.slot_list_gt PySem.F.entry_list_gt (PySem.F.args_list_gt_2 _ _) list_gt ⟨hl, hb, xs, ys, q1, q2, by simp, h⟩ hu
end
end Mine
end
section
open PySem PySem.Calls PyProof.Rows PySem.Builtin.Str
namespace Mine
theorem zdV {T : Nat → Addr} {F : Addr → Prop} {h : Heap} {l : List D} {ls : List (List Nat)} {vs : List Value} (e : toStrs l = some ls) (q : RepL T F h vs l) : StrVs vs ls := by
  have e' := zf7 e
  subst e'
  clear e
  induction ls generalizing vs with
  | nil => cases q; exact .nil
  | cons x ls ih => cases q with | cons a b => cases a with | str t p z => exact .cons (ih b)
inductive LtInv : D → D → Bool → Prop
  | str (x y : List Nat) : LtInv (.str x) (.str y) (ltL x y)
  | list {la lb : List D} {x y : List (List Nat)} : toStrs la = some x → toStrs lb = some y → LtInv (.list la) (.list lb) (ltSs x y)
theorem zjK {a b : D} {c : Bool} (e : ltD a b = some c) : LtInv a b c := by
  cases a <;> try (cases e; done)
  · cases b <;> try (cases e; done)
    cases e; exact .str _ _
  · cases b <;> try (cases e; done)
    rename_i la lb
    replace e : (match toStrs la, toStrs lb with | some x, some y => some (ltSs x y) | _, _ => none) = some c := e
    cases e1 : toStrs la with
    | none => rw [e1] at e; cases e
    | some x =>
    cases e2 : toStrs lb with
    | none => rw [e1, e2] at e; cases e
    | some y =>
    rw [e1, e2] at e
    cases e
    exact .list e1 e2
inductive BestInv (better : D → D → Option Bool) : List D → R → Prop
  | list {d : D} {r : List D} {res : D} : bestGo better d r = some res → BestInv better [.list (d :: r)] (.val res)
  | tup {d : D} {r : List D} {res : D} : bestGo better d r = some res → BestInv better [.tup (d :: r)] (.val res)
theorem zle {better : D → D → Option Bool} {ds : List D} {r : R} (e : opBest better ds = some r) : BestInv better ds r := by
  rcases ds with _ | ⟨a, t⟩
  · cases e
  cases a <;> try (cases e; done)
  all_goals
    rcases t with _ | ⟨_, _⟩
    · rename_i l
      rcases l with _ | ⟨d, l⟩
      · cases e
      obtain ⟨res, e1, e2⟩ := Option.map_eq_some_iff.mp (show (bestGo better d l).map R.val = some r from e)
      cases e2
      first | exact .list e1 | exact .tup e1
    · rename_i l _ _
      rcases l with _ | ⟨_, _⟩ <;> cases e
section
variable {cx : XCx} {F : Addr → Prop} {h0 : Heap} {prog : Program} {w : World} {A : Around} {E : Value → Shared → Prop} {s : Shared}
theorem zii {v u : Value} {a b : D} {c : Bool} (qa : Rep cx.T F h0 v a) (qb : Rep cx.T F h0 u b) (hk : ∀ a o, h0.get? a = some o → s.heap.get? a = some o) (hu : A.units < cLine) (e : ltD a b = some c) {Q : Value → Shared → Prop} (h : Q (.bool c) s) :
    wpAny (model prog w) A (richCompare .Lt v u) Q E s := by
  cases zjK e with
  | str x y => cases qa with | str t p z => cases qb with | str t' p' z' => exact P.lt_str h
  | list e1 e2 => cases qa with | list f g z q => cases qb with | list f' g' z' q' => exact rich_lt (hk _ _ g) (hk _ _ g') (zdV e1 q) (zdV e2 q') hu h
theorem zij {v u : Value} {a b : D} {c : Bool} (qa : Rep cx.T F h0 v a) (qb : Rep cx.T F h0 u b) (hk : ∀ a o, h0.get? a = some o → s.heap.get? a = some o) (hu : A.units < cLine) (e : gtD a b = some c) {Q : Value → Shared → Prop} (h : Q (.bool c) s) :
    wpAny (model prog w) A (richCompare .Gt v u) Q E s := by
  cases zjK (show ltD b a = some c from e) with
  | str x y => cases qa with | str t p z => cases qb with | str t' p' z' => exact P.gt_str h
  | list e1 e2 => cases qa with | list f g z q => cases qb with | list f' g' z' q' => exact rich_gt (hk _ _ g) (hk _ _ g') (zdV e2 q) (zdV e1 q') hu h
noncomputable def mm1 : {f : String → PySem.Builtin // PySem.Builtin.«min» = f "min" ∧ PySem.Builtin.«max» = f "max"} := ⟨_, rfl, rfl⟩
noncomputable def mmL : {f : String → CmpOp → PySem.Builtin // PySem.Builtin.«min.loop» = f "min" .Lt ∧ PySem.Builtin.«max.loop» = f "max" .Gt} := ⟨_, rfl, rfl⟩
set_option genInjectivity false in
structure MM (nm lp : String) (op : CmpOp) (better : D → D → Option Bool) : Prop where
  hn : (toString nm ++ toString ".loop" : String) = lp
  k : builtinKind nm = none
  p1 : plainId nm = true
  e1 : entryFor table nm = some (mm1.1 nm)
  a1 : ∀ a, argsOk nm ⟨[a], []⟩
  p2 : plainId lp = true
  e2 : entryFor table lp = some (mmL.1 nm op)
  rich : ∀ {cx : XCx} {F : Addr → Prop} {h0 : Heap} {prog : Program} {w : World} {A : Around} {E : Value → Shared → Prop} {s : Shared} {v u : Value} {a b : D} {c : Bool}, Rep cx.T F h0 v a → Rep cx.T F h0 u b → (∀ a o, h0.get? a = some o → s.heap.get? a = some o) → A.units < cLine → better a b = some c → ∀ {Q : Value → Shared → Prop}, Q (.bool c) s →
    wpAny (model prog w) A (richCompare op v u) Q E s
theorem mm_min : MM "min" "min.loop" .Lt ltD := ⟨by decide, PySem.F.kind_min, PySem.F.plain_min, mm1.2.1 ▸ PySem.F.entry_min, PySem.F.args_min1, PySem.F.plain_min_loop, mmL.2.1 ▸ PySem.F.entry_min_loop, zii⟩
theorem mm_max : MM "max" "max.loop" .Gt gtD := ⟨by decide, PySem.F.kind_max, PySem.F.plain_max, mm1.2.2 ▸ PySem.F.entry_max, PySem.F.args_max1, PySem.F.plain_max_loop, mmL.2.2 ▸ PySem.F.entry_max_loop, zij⟩
variable {nm lp : String} {op : CmpOp} {better : D → D → Option Bool}
theorem mm_loop (M : MM nm lp op better) {R : Result → Shared → Prop} {I S : Addr} {fp wr : List Addr} {P : Nat → Value → Prop} {St : Nat → Heap → Prop} {items : List D} (W : Walks prog w A.in1 I fp wr items.length P St) (hu : A.units + 1 < cLine) (hSf : S ∉ fp) (hw : ∀ b ∈ S :: wr, h0.get? b = none)
    (item : ∀ i v, P i v → ∃ d, items[i]? = some d ∧ Rep cx.T F h0 v d) {res : D} :
    ∀ (k j : Nat) (s : Shared) (vb : Value) (db : D) (c : Nat), items.length - j = k → j ≤ items.length → St j s.heap → (∀ a o, h0.get? a = some o → s.heap.get? a = some o) → Rep cx.T F h0 vb db → bestGo better db (items.drop j) = some res →
    s.heap.get? S = some { cls := .type "list", dict := none, data := .seq #[vb, vb] c, slots := #[] } →
    (∀ v h' tk, Rep cx.T F h0 v res → (∀ a o, h0.get? a = some o → h'.get? a = some o) → R (.ok (.ret v)) { s with heap := h', toks := tk }) →
    codeAny (model prog w) A (.builtin lp ⟨[.ref I, .none, .ref S], []⟩) R s := by
  have hSw : S ∉ wr := fun h => hSf (W.sub _ h)
  have notw : ∀ a o, h0.get? a = some o → a ∉ wr := fun a o e h => by rw [hw a (List.mem_cons_of_mem _ h)] at e; cases e
  have notS : ∀ a o, h0.get? a = some o → a ≠ S := fun a o e h => by rw [h, hw S List.mem_cons_self] at e; cases e
  intro k
  induction k with
  | zero =>
    intro j s vb db c hk hj hst hkp hvb hg hS hR
    have hin : j = items.length := Nat.le_antisymm hj (Nat.le_of_sub_eq_zero hk)
    subst hin
    rw [List.drop_length] at hg
    cases hg
    refine codeAny_builtin M.e2 ?_
    rw [Around.under_plainId M.p2 _]
    show wpAny _ A.in1 (seqItems? (.ref S) >>= _) _ _ s
    refine wpAny_bind (wpAny_seqItems hS rfl ?_)
    show wpAny _ A.in1 (tryCatch (pyNext (.ref I)) _ >>= _) _ _ s
    refine wpAny_bind (wpAny_tryCatch (W.done s _ _ hst fun h' tk hk' => ?_))
    have hS' := hk' S _ hSw hS
    show wpAny _ A.in1 (updateSeq S (fun _ => #[]) >>= _) _ _ _
    refine wpAny_bind ?_
    refine wpAny_updateSeq hS' rfl (wpAny_bind (wpAny_letGo (wpAny_pure ?_)))
    exact hR vb _ tk hvb fun b o e => (Heap.get?_update_other _ _ (Ne.symm (notS b o e))).trans (hk' b o (notw b o e) (hkp b o e))
  | succ k ih =>
    intro j s vb db c hk hj hst hkp hvb hg hS hR
    have hlt : j < items.length := Nat.lt_of_sub_pos (by rw [hk]; exact Nat.succ_pos _)
    rw [List.drop_eq_getElem_cons hlt] at hg
    refine codeAny_builtin M.e2 ?_
    rw [Around.under_plainId M.p2 _]
    show wpAny _ A.in1 (seqItems? (.ref S) >>= _) _ _ s
    refine wpAny_bind (wpAny_seqItems hS rfl ?_)
    show wpAny _ A.in1 (tryCatch (pyNext (.ref I)) _ >>= _) _ _ s
    refine wpAny_bind (wpAny_tryCatch (W.item j s _ _ hlt hst fun v h' tk hP hst' hk' => ?_))
    have hS' := hk' S _ hSw hS
    obtain ⟨d, hd, hv⟩ := item j v hP
    rw [List.getElem?_eq_getElem hlt] at hd
    cases hd
    unfold bestGo at hg
    have hkp' : ∀ a o, h0.get? a = some o → h'.get? a = some o := fun b o e => hk' b o (notw b o e) (hkp b o e)
    show wpAny _ A.in1 (tryCatch (holding [v, v] (richCompare op v vb >>= _)) _ >>= _) _ _ _
    cases hb : better items[j] db with
    | none => rw [hb] at hg; cases hg
    | some b =>
    rw [hb] at hg
    refine wpAny_bind (wpAny_tryCatch (wpAny_holding (wpAny_bind (M.rich (s := { s with heap := h', toks := tk }) hv hvb hkp' hu hb ?_))))
    refine wpAny_bind (wpAny_holding (wpAny_truthy_bool ?_))
    refine wpAny_bind (wpAny_letGo (wpAny_pure ?_))
    cases b with
    | true =>
      simp only [if_true]
      refine wpAny_bind ?_
      refine wpAny_updateSeq hS' rfl (wpAny_bind (wpAny_letGo ?_))
      rw [M.hn]
      refine wpAny_pure ⟨plainId_quiet M.p2 _, ih (j + 1) _ v _ _ (by rw [Nat.sub_succ, hk]; rfl) hlt (W.frame _ _ _ hst' fun b hbf o e => ?_) (fun b o e => ?_) hv hg (Heap.get?_update_self _ hS' rfl)
        fun v' h'' tk'' hP' hk'' => ?_⟩
      · exact (Heap.get?_update_other _ _ (fun h : S = b => hSf (by rw [h]; exact hbf))).trans e
      · exact (Heap.get?_update_other _ _ (Ne.symm (notS b o e))).trans (hkp' b o e)
      · exact hR v' h'' tk'' hP' hk''
    | false =>
      simp only [Bool.false_eq_true, if_false]
      refine wpAny_bind (wpAny_letGo ?_)
      rw [M.hn]
      exact wpAny_pure ⟨plainId_quiet M.p2 _, ih (j + 1) _ vb db c (by rw [Nat.sub_succ, hk]; rfl) hlt hst' hkp' hvb hg hS' fun v' h'' tk'' hP' hk'' => hR v' h'' tk'' hP' hk''⟩
theorem ziK (M : MM nm lp op better) {x : Value} {d : D} {r : List D} {res : D} {Q : Value → Shared → Prop} (hu : A.units + 2 < cLine) (hg : bestGo better d r = some res)
    (h : wpAny (model prog w) A.in1 (pyIter x) (fun it s₂ => ∃ I fp wr P St, it = .ref I ∧ Walks prog w A.in1 I fp wr (d :: r).length P St ∧ St 0 s₂.heap ∧ (∀ b ∈ fp, b < s₂.heap.objs.size) ∧ (∀ b ∈ wr, s.heap.get? b = none) ∧ (∀ a o, s.heap.get? a = some o → s₂.heap.get? a = some o) ∧
      (∀ i v, P i v → ∃ d', (d :: r)[i]? = some d' ∧ Rep cx.T F s.heap v d') ∧
      ∀ v h' tk, Rep cx.T F s.heap v res → (∀ b o, s.heap.get? b = some o → h'.get? b = some o) → Q v { s₂ with heap := h', toks := tk }) E s) :
    wpAny (model prog w) A (call (.builtin nm) [x]) Q E s := by
  refine call_function_tree M.k M.p1 M.e1 (M.a1 _) ?_
  show wpAny _ A.in1 (Builtin.Builtins.bindParams nm ["key", "default"] 0 ⟨[], []⟩ >>= _) _ _ s
  refine wpAny_bind (wpAny_of_eq (show Builtin.Builtins.bindParams nm ["key", "default"] 0 ⟨[], []⟩ = pure [none, none] from rfl) ?_)
  refine wpAny_bind (wpAny_pure ?_)
  refine wpAny_bind (wpAny_mono h (fun it s₂ h₂ => ?_) fun _ _ e => e)
  obtain ⟨I, fp, wr, P, St, rfl, W, hst, hfp, hwr, hkp, item, hQ⟩ := h₂
  refine wpAny_bind (wpAny_newObj_type ?_)
  have hSf : s₂.heap.objs.size ∉ fp := fun hm => Nat.lt_irrefl _ (hfp _ hm)
  have hS0 : s.heap.get? s₂.heap.objs.size = none := by
    cases e : s.heap.get? s₂.heap.objs.size with
    | none => rfl
    | some o => exact absurd (Heap.lt_size (hkp _ _ e)) (Nat.lt_irrefl _)
  rw [M.hn]
  refine wpAny_pure ⟨plainId_quiet M.p2 _, ?_⟩
  have hSw : s₂.heap.objs.size ∉ wr := fun h => hSf (W.sub _ h)
  have hst1 := W.frame 0 _ (s₂.heap.push { cls := .type "list", data := .seq #[] 0 }) hst fun b _ o e => Heap.get?_push_of_some _ e
  refine codeAny_builtin M.e2 ?_
  rw [Around.under_plainId M.p2 _]
  show wpAny _ A.in1 (seqItems? (.ref s₂.heap.objs.size) >>= _) _ _ _
  refine wpAny_bind (wpAny_seqItems (Heap.get?_push_size _ rfl) rfl ?_)
  show wpAny _ A.in1 (tryCatch (pyNext (.ref I)) _ >>= _) _ _ _
  refine wpAny_bind (wpAny_tryCatch (W.item 0 _ _ _ (Nat.zero_lt_succ _) hst1 fun v h' tk hP hst' hk' => ?_))
  have hS' := hk' s₂.heap.objs.size _ hSw (Heap.get?_push_size _ rfl)
  obtain ⟨d', hd', hv⟩ := item 0 v hP
  cases hd'
  have notw : ∀ a o, s.heap.get? a = some o → a ∉ wr := fun a o e h => by rw [hwr a h] at e; cases e
  have notS : ∀ a o, s.heap.get? a = some o → a ≠ s₂.heap.objs.size := fun a o e h => by rw [h, hS0] at e; cases e
  show wpAny _ A.in1 (updateSeq s₂.heap.objs.size (fun _ => #[v, v]) >>= _) _ _ _
  refine wpAny_bind ?_
  refine wpAny_updateSeq hS' rfl ?_
  rw [M.hn]
  refine wpAny_pure ⟨plainId_quiet M.p2 _, mm_loop M (A := A) (cx := cx) (F := F) (h0 := s.heap) W (Nat.lt_of_succ_lt hu) hSf (fun b hb => ?_) item (r.length) 1 _ v d _ rfl (Nat.succ_le_succ (Nat.zero_le _)) (W.frame _ _ _ hst' fun b hbf o e => ?_) (fun b o e => ?_) hv (show bestGo better d ((d :: r).drop 1) = some res from hg) (Heap.get?_update_self _ hS' rfl) fun v' h'' tk'' hP' hk'' => ?_⟩
  · rcases List.mem_cons.mp hb with rfl | hb
    · exact hS0
    · exact hwr b hb
  · exact (Heap.get?_update_other _ _ (fun h : s₂.heap.objs.size = b => hSf (by rw [h]; exact hbf))).trans e
  · exact (Heap.get?_update_other _ _ (Ne.symm (notS b o e))).trans (hk' b o (notw b o e) (Heap.get?_push_of_some _ (hkp b o e)))
  · exact hQ v' h'' tk'' hP' hk''
end
section
variable {cx : XCx} {nm lp : String} {op : CmpOp} {better : D → D → Option Bool}
theorem zgM {x : Value} {a : Addr} {vs : List Value} {d : D} {r : List D} {res : D} (M : MM nm lp op better) {n : Nat} {Q : Value → Shared → Prop} {E : Value → Shared → Prop} {s : Shared} {F : Addr → Prop} {A : Around} {ok : CxOk cx} (bud : BudE n A) (w : Wd cx F s) {o o' : Obj} (g : s.heap.get? a = some o') (ql : RepL cx.T F s.heap vs (d :: r)) (e1 : bestGo better d r = some res) {St : Nat → Heap → Prop}
    (W : Walks cx.prog cx.w A.in1 s.heap.objs.size [s.heap.objs.size, a] [s.heap.objs.size] vs.toArray.size (fun i v => vs.toArray[i]? = some v) St) (st0 : St 0 (s.heap.push o))
    (it : ∀ {P : Value → Shared → Prop}, P (.ref s.heap.objs.size) { s with heap := s.heap.push o } → wpAny (model cx.prog cx.w) A.in1 (pyIter x) P E s) (hQ : Post cx F s (.val res) Q) : wpAny (model cx.prog cx.w) A (call (.builtin nm) [x]) Q E s := by
  have el : (d :: r).length = vs.toArray.size := by rw [List.size_toArray]; exact ql.length.symm
  refine ziK (cx := cx) (F := F) M (by have := bud.un; show A.units + 2 < 9900; omega) e1 (it ?_)
  refine ⟨s.heap.objs.size, [s.heap.objs.size, a], [s.heap.objs.size], fun i v => vs.toArray[i]? = some v, St, rfl, el ▸ W, st0, ?_, ?_, fun _ _ e => Heap.get?_push_of_some _ e, fun i v hv => ?_, fun v h' tk hv hk => ?_⟩
  · intro b hb
    rw [Heap.size_push]
    rcases List.mem_cons.mp hb with rfl | hb
    · exact Nat.lt_succ_self _
    · cases List.mem_singleton.mp hb
      exact Nat.lt_succ_of_lt (Heap.lt_size g)
  · intro b hb
    cases List.mem_singleton.mp hb
    exact zaz _
  · replace hv : vs.toArray[i]? = some v := hv
    rw [List.getElem?_toArray] at hv
    exact ql.getV hv
  · exact hQ v F _ (Step.grown ok w tk hk) (.val (hv.mono (fun _ h => h) fun _ _ _ e => hk _ _ e))
theorem zjj {n : Nat} {A : Around} {F : Addr → Prop} {s : Shared} {vs : List Value} {ds : List D} {r : R} (M : MM nm lp op better) (ok : CxOk cx) (bud : BudE n A) (w : Wd cx F s) (q : BRepL cx F s.heap vs ds) (he : opBest better ds = some r) : Ev cx A F s (call (.builtin nm) vs) r := by
  intro Q E hQ
  cases zle he with
  | @list d r' res e1 =>
    obtain ⟨x, rfl, qa⟩ := q.one
    obtain ⟨a, vs, k, rfl, nx, g, z, ql⟩ := qa.list_inv w
    exact zgM (ok := ok) M bud w g ql e1 (Walks.list (A := A.in1) bud.hd _ a (Nat.ne_of_lt (Heap.lt_size g)) vs.toArray) ⟨⟨_, Heap.get?_push_size _ rfl, rfl, rfl⟩, zaI (Heap.get?_push_of_some _ g)⟩ (fun h => wpAny_pyIter_list (zaI g) h) hQ
  | @tup d r' res e1 =>
    obtain ⟨x, rfl, qa⟩ := q.one
    obtain ⟨a, vs, k, rfl, f, g, z, ql⟩ := qa.tup_inv
    have ht : s.heap.IsTuple a vs.toArray := ⟨_, g, rfl, k, rfl⟩
    exact zgM (ok := ok) M bud w g ql e1 (Walks.tuple (A := A.in1) bud.hd _ a (Nat.ne_of_lt (Heap.lt_size g)) vs.toArray) ⟨⟨_, Heap.get?_push_size _ rfl, rfl, rfl⟩, ht.push _⟩ (fun h => wpAny_pyIter_tuple ht h) hQ
theorem zlo : OpOK cx .min (fun vs => call (.builtin "min") vs) := by
  intro n A F s vs ds r ok bud w q he
  exact zjj mm_min ok bud w q he
inductive MaxInv : List D → R → Prop
  | two (a b : Int) : MaxInv [.int a, .int b] (.val (.int (if b > a then b else a)))
  | best {ds : List D} {r : R} : opBest gtD ds = some r → MaxInv ds r
theorem max_inv {ds : List D} {r : R} (he : opMax ds = some r) : MaxInv ds r := by
  rcases ds with _ | ⟨a0, t0⟩
  · cases he
  cases a0 with
  | int a =>
    rcases t0 with _ | ⟨a1, t1⟩
    · cases he
    cases a1 with
    | int b => rcases t1 with _ | ⟨_, _⟩ <;> cases he; exact .two a b
    | _ => exact .best he
  | _ => exact .best he
theorem zlp : OpOK cx .max (fun vs => call (.builtin "max") vs) := by
  intro n A F s vs ds r ok bud w q he
  cases max_inv (show opMax ds = some r from he) with
  | two a b =>
    intro Q E hQ
    obtain ⟨x, y, rfl, qa, qb⟩ := q.two
    obtain ⟨t, rfl⟩ := qa.int_inv
    obtain ⟨u, rfl⟩ := qb.int_inv
    refine max_two_ints bud.hd fun h' tk hk => hQ _ F _ (Step.grown ok w tk hk) ?_
    by_cases h : b > a
    · rw [if_pos h, if_pos h]; exact .val (.int _ _)
    · rw [if_neg h, if_neg h]; exact .val (.int _ _)
  | best e => exact zjj mm_max ok bud w q e
end
set_option genInjectivity false in
structure IterE (cx : XCx) (A : Around) (F₀ : Addr → Prop) (s₀ : Shared) (items : List D) (e it : Addr) (F : Addr → Prop) (s : Shared) (fp : List Addr) (P : Nat → Value → Prop) (St : Nat → Heap → Prop) : Prop where
  st : Step cx F₀ s₀ F s
  W : ∀ A' : Around, A'.handled = none → Draws cx.prog cx.w A' it fp items.length P St
  s0 : St 0 s.heap
  he : IsEnum s.heap e it 0 .none
  ne : e ≠ it
  nef : e ∉ fp
  newe : s₀.heap.get? e = none ∧ ¬ F e
  newi : s₀.heap.get? it = none ∧ ¬ F it
  deps : ∀ b ∈ fp, b = it ∨ F b
  item : ∀ i v, P i v → ∃ d, items[i]? = some d ∧ Rep cx.T F s.heap v d
  live : ∀ i h, St i h → ∃ o, h.get? it = some o
  lim : items.length ≤ lim
section
variable {cx : XCx} {ε : Sc}
theorem zgD : ∀ {l : List D} {j : Nat} {k : Int} {d : D}, l[j]? = some d → (enumL k l)[j]? = some (.tup [.int (k + j), d])
  | [], j, k, d, h => by cases h
  | a :: l, 0, k, d, h => by
    cases h
    show some (D.tup [.int k, a]) = _
    simp
  | a :: l, j + 1, k, d, h => by
    show (enumL (k + 1) l)[j]? = _
    rw [zgD (l := l) (by simpa using h), show k + 1 + (j : Int) = k + ((j + 1 : Nat) : Int) by push_cast; omega]
theorem zcs : ∀ {l : List D} {k : Int}, (enumL k l).length = l.length
  | [], _ => rfl
  | a :: l, k => by show (enumL (k + 1) l).length + 1 = _; rw [zcs]; rfl
noncomputable def PairR (cx : XCx) (F : Addr → Prop) (h : Heap) (v : Value) (d : D) : Prop := ∃ (a : Addr) (vs : List Value) (ds : List D), v = .ref a ∧ h.IsTuple a vs.toArray ∧ d = .tup ds ∧ RepL cx.T F h vs ds
theorem IterE.gen {A : Around} (hh : A.handled = none) {elts : List Expr} {kt : Nat} {pt : Pos} {F₀ F : Addr → Prop} {s₀ s : Shared} {items : List D} {e it : Addr} {fp : List Addr} {P : Nat → Value → Prop} {St : Nat → Heap → Prop} (J : IterE cx A F₀ s₀ items e it F s fp P St) :
    IterG cx A (.Tuple elts kt pt) F₀ s₀ (enumL 0 items) e F s [e, it] (fun j h => (∃ old, IsEnum h e it (j : Int) old) ∧ St j h) (PairR cx) := by
  have mem : ∀ b, b ∈ [e, it] → b = e ∨ b = it := fun b hb => by simpa using hb
  have out : ∀ b, b ∉ [e, it] → b ≠ e ∧ b ≠ it := fun b hb => by simpa using hb
  refine ⟨J.st, ⟨⟨_, J.he⟩, J.s0⟩, fun b hb => ?_, fun j h hs b hb => ?_, fun j h h' hs hk => ?_, fun j s' F' K N E hlt hst hrep hnw hQ => ?_, fun s' K N E hst hQ => ?_⟩
  · rcases mem b hb with rfl | rfl
    · exact J.newe
    · exact J.newi
  · rcases mem b hb with rfl | rfl
    · obtain ⟨_, g⟩ := hs.1; exact ⟨_, g⟩
    · exact J.live _ _ hs.2
  · obtain ⟨⟨old, g⟩, hs⟩ := hs
    exact ⟨⟨old, hk e (.inl (by simp)) _ g⟩, (J.W A hh).frame _ _ _ hs fun b hb => hk b ((J.deps b hb).imp (fun q => by simp [q]) id)⟩
  · rw [zcs] at hlt
    obtain ⟨⟨old, g⟩, hst⟩ := hst
    refine wpAny_pyNext_enum_itemD (J.W A.in1 hh) g hst hlt J.ne J.nef fun v h' tk hP hout hst' hT hsz hk => ?_
    refine wpAny_letOwnedTupleGo_enum (s := { s' with heap := h', toks := tk + 1 }) hout fun h2 hen2 hs2 => ?_
    have hk2 : ∀ b o, b ∉ [e, it] → s'.heap.get? b = some o → h2.get? b = some o := fun b o hb q => hs2.extBut b o (out b hb).1 (hk b o (out b hb).1 (out b hb).2 q)
    obtain ⟨d, hd, hr⟩ := J.item j v hP
    have hTne : s'.heap.objs.size ≠ e := fun q => by have := Heap.lt_size g; rw [q] at this; exact Nat.lt_irrefl _ this
    have hT2 : h2.get? s'.heap.objs.size = some { cls := .type "tuple", data := .seq #[.int (j : Int) tk, v] } := hs2.extBut _ _ hTne hT
    have hr2 : Rep cx.T F' h2 v d := (hrep v d hr).mono (fun _ h => h) fun a o f q => hk2 a o (fun hm => hnw a hm f) q
    have ec : (((j + 1 : Nat) : Int)) = (j : Int) + 1 := by push_cast; rfl
    refine hQ _ h2 (tk + 1) _ (zgD hd) ⟨_, [.int (j : Int) tk, v], [.int (0 + (j : Int)), d], rfl, ⟨_, hT2, rfl, _, rfl⟩, rfl, ?_⟩ ⟨⟨v, ec ▸ hen2⟩, (J.W A hh).frame _ _ _ hst' fun b hb o q => hs2.extBut b o (fun q => J.nef (q ▸ hb)) q⟩ hk2
    rw [Int.zero_add]
    exact .cons (.int _ _) (.cons hr2 .nil)
  · rw [zcs] at hst
    obtain ⟨⟨old, g⟩, hst⟩ := hst
    exact wpAny_pyNext_enum_endD (J.W A.in1 hh) g hst fun h' hk => hQ h' s'.toks fun b o hb q => hk b o (out b hb).2 q
end
section
variable {cx : XCx} {ε : Sc}
theorem zlc {A : Around} (hh : A.handled = none) {F₀ F : Addr → Prop} {s₀ s : Shared} (ok : CxOk cx) (w₀ : Wd cx F₀ s₀) (st : Step cx F₀ s₀ F s) {v : Value} {d : D} (q : Rep cx.T F s.heap v d) {items : List D} (hi : enumOf d = some items)
    {Q : Value → Shared → Prop} {E : Value → Shared → Prop} (hQ : ∀ e i F' s' fp P St, IterE cx A F₀ s₀ items e i F' s' fp P St → Q (.ref e) s') : wpAny (model cx.prog cx.w) A (call (.type "enumerate") [v]) (fun v s₁ => wpAny (model cx.prog cx.w) A (pyIter v) Q E s₁) E s := by
  have fr := zaz s.heap
  have fr2 : s.heap.get? (s.heap.objs.size + 1) = none := Heap.get?_none_of_le (Nat.le_succ _)
  have n1 : s₀.heap.get? s.heap.objs.size = none ∧ ¬ F s.heap.objs.size := ⟨st.fresh (st.wd.newNotX fr) fr, st.wd.newNotF fr⟩
  have n2 : s₀.heap.get? (s.heap.objs.size + 1) = none ∧ ¬ F (s.heap.objs.size + 1) := ⟨st.fresh (st.wd.newNotX fr2) fr2, st.wd.newNotF fr2⟩
  cases q with
  | @list a vs n l f g z q =>
    cases hi
    have hlt := Heap.lt_size g
    have hne : a ≠ s.heap.objs.size := Nat.ne_of_lt hlt
    have el : items.length = vs.toArray.size := by rw [List.size_toArray]; exact q.length.symm
    refine call_enumerate_list (zaI g) fun h' he hit hsz keep => ?_
    have stp := Step.grown ok st.wd s.toks keep
    refine wpAny_pyIter_enum he (hQ _ s.heap.objs.size F _ [s.heap.objs.size, a] (fun i v => vs.toArray[i]? = some v) (fun i h => h.IsListIter s.heap.objs.size a i ∧ h.IsList a vs.toArray) ?_)
    refine ⟨st.trans stp, fun A' hh => el ▸ Draws.list hh _ a hne vs.toArray, ⟨hit, zaI (keep _ _ g)⟩, he, Nat.succ_ne_self _, ?_, n2, n1, fun b hb => ?_, fun i v h => ?_, fun i h hs => ?_, by rw [← q.length]; exact z⟩
    · simp only [List.mem_cons, List.not_mem_nil, or_false, not_or]
      exact ⟨Nat.succ_ne_self _, fun e => Nat.lt_irrefl _ (Nat.lt_of_succ_lt (e.symm ▸ hlt : s.heap.objs.size + 1 < s.heap.objs.size))⟩
    · simp only [List.mem_cons, List.not_mem_nil, or_false] at hb
      rcases hb with rfl | rfl
      · exact .inl rfl
      · exact .inr f
    · replace h : vs.toArray[i]? = some v := h
      rw [List.getElem?_toArray] at h
      obtain ⟨d, e, r⟩ := q.getV h
      exact ⟨d, e, stp.rep st.wd r⟩
    · obtain ⟨⟨o, g, _⟩, _⟩ := hs
      exact ⟨o, g⟩
  | @str l t p z =>
    cases hi
    have el : (l.map fun c => D.str [c]).length = (PySem.Str.mk l.toArray).cps.size := by simp
    refine call_enumerate_str fun h' he hit hsz keep => ?_
    have stp := Step.grown ok st.wd s.toks keep
    have item : ∀ (i : Nat) (v : Value), (∃ c u, (PySem.Str.mk l.toArray).cps[i]? = some c ∧ v = Value.str ⟨#[c]⟩ u) → ∃ d, (l.map fun c => D.str [c])[i]? = some d ∧ Rep cx.T F h' v d := by
      rintro i v ⟨c, u, e, rfl⟩
      rw [show (PySem.Str.mk l.toArray).cps = l.toArray from rfl, List.getElem?_toArray] at e
      refine ⟨.str [c], by rw [List.getElem?_map, e]; rfl, .str (l := [c]) u (fun c' h => ?_) (by simp [lim])⟩
      rw [List.mem_singleton.mp h]
      exact p _ (List.mem_of_getElem? e)
    have hz : (l.map fun c => D.str [c]).length ≤ lim := by simpa using z
    have nef : s.heap.objs.size + 1 ∉ [s.heap.objs.size] := fun h => Nat.succ_ne_self _ (List.mem_singleton.mp h)
    have deps : ∀ b ∈ [s.heap.objs.size], b = s.heap.objs.size ∨ F b := fun b hb => .inl (List.mem_singleton.mp hb)
    refine wpAny_pyIter_enum he ?_
    cases ha : (PySem.Str.mk l.toArray).cps.all (· < 128)
    · have hit' : h'.IsStrIter s.heap.objs.size "str_iterator" ⟨l.toArray⟩ t 0 := by unfold strIterType at hit; rw [ha] at hit; exact hit
      exact hQ _ s.heap.objs.size F _ _ _ _ ⟨st.trans stp, fun A' hh => el ▸ Draws.strWide hh _ ⟨l.toArray⟩ t, hit', he, Nat.succ_ne_self _, nef, n2, n1, deps, item, fun i h hs => let ⟨o, g, _⟩ := hs; ⟨o, g⟩, hz⟩
    · have hit' : h'.IsStrIter s.heap.objs.size "str_ascii_iterator" ⟨l.toArray⟩ t 0 := by unfold strIterType at hit; rw [ha] at hit; exact hit
      exact hQ _ s.heap.objs.size F _ _ _ _ ⟨st.trans stp, fun A' hh => el ▸ Draws.strAscii hh _ ⟨l.toArray⟩ t, hit', he, Nat.succ_ne_self _, nef, n2, n1, deps, item, fun i h hs => let ⟨o, g, _⟩ := hs; ⟨o, g⟩, hz⟩
  | _ => cases hi
theorem zlb {cf : Nat → List D → Option D} {x : X} {ρ : List Slot} {its : List D} (h : evI cf (.enumI x) ρ = some its) : ∃ r d items, ev cf x ρ = some [r] ∧ r.fz = some d ∧ enumOf d = some items ∧ its = enumL 0 items := by
  unfold evI at h
  split at h
  · rename_i l e
    cases h
    replace e := (zaZ _).symm.trans e
    split at e
    · rename_i r e1
      split at e
      · rename_i d e2
        obtain ⟨l', e3, e4⟩ := Option.map_eq_some_iff.mp e
        cases e4
        exact ⟨r, d, l', e1, e2, e3, rfl⟩
      · cases e
    · cases e
  · cases h
theorem zcH {x y : Str} {i j : Nat} {p p' pt pe pc pos : Pos} {k : Nat} {e : Expr} {z : X} {bs : List Stmt} {b : S} (hk : ε.kinds.lookup ("enumerate" : Str) = some .globalImplicit) (hg : cx.mg ("enumerate" : Str) = none)
    (hx : ε.vars.lookup x = some i) (hy : ε.vars.lookup y = some j) (hfx : ε.kinds.lookup x ≠ some .free) (hfy : ε.kinds.lookup y ≠ some .free) (hi : Sound cx ε e z) (hst : starred e = false) (hb : SoundSs cx ε bs b)
    (hs : ∀ env x, foldedSetIterable (.Call (.Name "enumerate" pe) [e] [] pc) env x = pure x) : SoundS cx ε (.For (.Tuple [.Name x p, .Name y p'] k pt) (.Call (.Name "enumerate" pe) [e] [] pc) bs [] pos) (.forE2 i j (.enumI z) b) := by
  intro n cf A env F s ρ ad m cm H ρ' o h Q E hQ
  replace h := (zgB cf).symm.trans h
  split at h
  · rename_i its ei
    obtain ⟨r, d, items, e1, e2, e3, rfl⟩ := zlb ei
    refine zjW (TR := PairR cx) hb hs H (fun F s ρ m cm ad H' v d ρ' hv hp Q' E' hQ' => ?_) (fun Q' E' hQ' => ?_) h hQ
    · obtain ⟨a, vs, ds, rfl, ht, rfl, q⟩ := hv
      unfold put2 at hp
      split at hp <;> cases hp
      rename_i q0
      cases q0
      exact zf9 H' ht q (is := [i, j]) rfl rfl rfl (.cons hx hfx zbY (.cons hy hfy zbY .nil)) hQ'
    rw [zay (by intro _ _ _ e; cases e)]
    refine wpAny_bind (zaS H.here hk hg (by decide) (v := .type "enumerate") (by kernel_rfl) (by decide) ?_)
    have hL : SoundL cx ε [e] (.cons z .nil) false := .cons hi hst .nil
    refine PyProof.Rows.callWith_type (zaL hL) (za0 hL H.here (zh0 e1) fun vs F' s' st q => ?_)
    obtain ⟨v, rfl, q0⟩ : ∃ v, vs = [v] ∧ RepR cx F' s.heap s'.heap v r := by
      cases q with | cons a b => cases b; exact ⟨_, rfl, a⟩
    obtain ⟨F'', st', _, q'⟩ := st.fz H.ok H.wd q0 e2
    exact zlc H.bud.hd H.ok H.wd st' q' e3 fun e0 i0 F3 s3 fp P St J => hQ' e0 F3 s3 _ _ (J.gen H.bud.hd)
  · cases h
end
section
variable {cx : XCx} {ε : Sc}
end
end Mine
end
section
open PySem PySem.Calls PyProof.Rows PySem.Builtin.Str PySem.SeqAt PySem.AutoSeq1 PySem.MeetsSeq PySem.MeetsSeq2 PySem.MeetsSeq3 PySem.SeqRoads2
namespace Mine
section
variable {cx : XCx} {ε : Sc}
end
end Mine
end
section
open PySem PySem.Calls PyProof.Rows PySem.Builtin.Str
open AutoSeq1 (wpAny_loadPart')
namespace Mine
theorem zfx : PySem.Slot "map" "__init__" "object.__init__" :=
  .of (owner := "object") (n := "__init__") (by rw [typeLookup_type, builtinLookup_eq_fast]; kernel_rfl) (by decide +kernel) (by decide +kernel) (by decide +kernel)
    (by first | exact .inl (by decide +kernel) | exact .inr (by decide +kernel)) (by rw [isSubtype_type]; kernel_rfl)
theorem zc3 : PySem.Slot "map" "__iter__" "map.__iter__" :=
  .of (owner := "map") (n := "__iter__") (by rw [typeLookup_type, builtinLookup_eq_fast]; kernel_rfl) (by decide +kernel) (by decide +kernel) (by decide +kernel)
    (by first | exact .inl (by decide +kernel) | exact .inr (by decide +kernel)) (by rw [isSubtype_type]; kernel_rfl)
theorem slot_map_next : PySem.Slot "map" "__next__" "map.__next__" :=
  .of (owner := "map") (n := "__next__") (by rw [typeLookup_type, builtinLookup_eq_fast]; kernel_rfl) (by decide +kernel) (by decide +kernel) (by decide +kernel)
    (by first | exact .inl (by decide +kernel) | exact .inr (by decide +kernel)) (by rw [isSubtype_type]; kernel_rfl)
theorem zcK : entryFor table "map.__next__" = some PySem.Builtin.«map.__next__» := entryFor_of_tree (by kernel_rfl)
theorem zfR : entryFor table "map.__new__" = some PySem.Builtin.«map.__new__» := entryFor_of_tree (by kernel_rfl)
theorem zjD : mroOf (.type "map") = pure [.type "map", .type "object"] := by rw [mroOf_type]; kernel_rfl
theorem zeR : typeLookup (.type "map") "__new__" = pure (some (.builtin "map.__new__")) := by rw [typeLookup_type, builtinLookup_eq_fast]; kernel_rfl
theorem ziI : TypeCalled "map" "map.__new__" "object.__init__" :=
  ⟨by decide +kernel, by decide +kernel, ⟨_, _, zjD⟩, madeBy_type zjD zeR (by decide +kernel), by decide +kernel, by rw [isSubtype_type]; kernel_rfl, zfx⟩
theorem zeH (a b : Value) : checkTypeCall "map" ⟨[a, b], []⟩ = pure () := by kernel_rfl
theorem zfH (a b : Value) : checkBuiltinCall "map.__new__" ⟨[.type "map", a, b], []⟩ = pure () := by kernel_rfl
theorem ziq : typeLookup (.type "map") "__len__" = pure none := by rw [typeLookup_type, builtinLookup_eq_fast]; kernel_rfl
theorem zhh : typeLookup (.type "map") "__length_hint__" = pure none := by rw [typeLookup_type, builtinLookup_eq_fast]; kernel_rfl
theorem sub_map : isSubtype (.type "map") (.type "map") = pure true := by rw [isSubtype_type]; kernel_rfl
theorem zct (a : Value) : argsOk "map.__next__" ⟨[a], []⟩ := by unfold argsOk; kernel_rfl
theorem zeB (a : Value) : argsOk "map.__iter__" ⟨[a], []⟩ := by unfold argsOk; kernel_rfl
theorem zeX : entryFor table "map.__iter__" = some PySem.Builtin.«dict_keyiterator.__iter__» :=
  entryFor_alias (id' := "dict_keyiterator.__iter__") (by kernel_rfl) (by first | rfl | decide +kernel | (unfold String.splitOn; simp +decide [String.splitOnAux])) (by decide +kernel) (by kernel_rfl)
noncomputable abbrev mobj (t : Addr) (f : Value) : Obj := { cls := .type "map", data := .fields #[.ref t, f] }
noncomputable abbrev mapH1 (h : Heap) (l : Addr) : Heap := h.push { cls := .type "list_iterator", data := .fields #[.ref l, .int 0 0] }
noncomputable abbrev mapH2 (h : Heap) (l : Addr) : Heap := (mapH1 h l).push { cls := .type "tuple", data := .seq #[.ref h.objs.size] }
noncomputable abbrev mapH3 (h : Heap) (l : Addr) (f : Value) : Heap := (mapH2 h l).push (mobj (mapH1 h l).objs.size f)
theorem zfI (l : Addr) (f : Value) (items : Array Value) (n : Nat) :
    Meets (PySem.Builtin.«map.__new__» ⟨[.type "map", f, .ref l], []⟩) (fun _ R s => s.heap.get? l = some (lobj items n) ∧
      R (.ok (.ret (.ref (mapH2 s.heap l).objs.size))) { s with heap := mapH3 s.heap l f }) :=
  .of_wp fun prog w A R s h => by
    obtain ⟨hp, g, d, tk, os⟩ := s; obtain ⟨hl, h⟩ := h
    have hsub := sub_map
    have hL : Heap.IsList (Shared.heap ⟨hp, g, d, tk, os⟩) l items := ⟨_, hl, rfl, n, rfl⟩
    wp_walk using wpAny_loadPart' hl, wpAny_pyIter_list hL
    exact ⟨_, rfl, h⟩
section
variable {prog : Program} {w : World} {A : Around} {E : Value → Shared → Prop} {s : Shared}
theorem zfU {l : Addr} {f : Value} {items : Array Value} {n : Nat} {Q : Value → Shared → Prop} (hl : s.heap.get? l = some (lobj items n)) (h : Q (.ref (mapH2 s.heap l).objs.size) { s with heap := mapH3 s.heap l f }) :
    wpAny (model prog w) A (call (.type "map") [f, .ref l]) Q E s :=
  callType_new ziI (by decide) (zeH _ _) (zfH _ _) (fun obj => PySem.F.args_object_init_3 obj _ _) zfR (zfI l f items n) ⟨hl, ⟨_, Heap.get?_push_size _ rfl, rfl⟩, h⟩
theorem zil {M t : Addr} {f : Value} {Q : Value → Shared → Prop} (hm : s.heap.get? M = some (mobj t f)) (h : Q (.ref M) s) : wpAny (model prog w) A (pyIter (.ref M)) Q E s := by
  have hT : s.TypeIs (.ref M) "map" := ⟨_, hm, rfl⟩
  refine wpAny_pyIter_slot hT zc3 (wpAny_call_entry zc3 hT zeX ?_ (zeB _))
  show wpAny _ _ (ret (.ref M)) _ _ s
  exact wpAny_pure ⟨_, rfl, "map", _, hT, slot_map_next.lookup, h⟩
theorem zk2 {M t I : Addr} {f : Value} {k n i : Nat} {P : Nat → Value → Prop} {St : Nat → Heap → Prop} {fp : List Addr} {Q : Option Value → Shared → Prop} (D : Draws prog w A.in1 I fp n P St) (hm : s.heap.get? M = some (mobj t f)) (ht : s.heap.get? t = some (tobj #[.ref I] k)) (hst : St i s.heap) (hi : i < n) (hMI : M ≠ I)
    (hc : ∀ x h' tk, P i x → St (i + 1) h' → Heap.SameBut I s.heap h' → wpAny (model prog w) A.in1 (call f [x]) (fun v s' => Q (some v) s') (fun _ _ => False) { s with heap := h', toks := tk }) :
    wpAny (model prog w) A (pyNext (.ref M)) Q E s := by
  have hT : s.TypeIs (.ref M) "map" := ⟨_, hm, rfl⟩
  unfold pyNext
  refine wpAny_bind (wpAny_attempt (wpAny_callSpecial?_slot (name := Str.ofString "__next__") hT slot_map_next (wpAny_call_entry slot_map_next hT zcK ?_ (zct _))))
  show wpAny _ _ (field (.ref M) 0 >>= _) _ _ _
  refine wpAny_bind (wpAny_field hm rfl (x := .ref t) rfl ?_)
  show wpAny _ _ (seqItems? (.ref t) >>= _) _ _ _
  refine wpAny_bind (wpAny_seqItems ht rfl ?_)
  show wpAny _ _ (forIn #[Value.ref I] (#[] : Array Value) _ >>= _) _ _ _
  rw [← Array.forIn_toList]
  simp only [List.forIn_cons, List.forIn_nil]
  refine wpAny_bind (wpAny_bind (wpAny_bind (wpAny_holding (D.item i _ _ _ hi hst fun x h' tk hP hst' hk => wpAny_pure ?_))))
  refine wpAny_pure ?_
  have hm' : h'.get? M = some (mobj t f) := (hk.2 M hMI).trans hm
  show wpAny _ _ (field (.ref M) 1 >>= _) _ _ { s with heap := h', toks := tk }
  refine wpAny_bind (wpAny_field hm' rfl (x := f) rfl ?_)
  refine wpAny_bind (wpAny_holding (wpAny_mono (hc x h' tk hP hst' hk) (fun v s' hv => ?_) fun _ _ h => h.elim))
  exact wpAny_bind (wpAny_letGo (wpAny_pure ⟨v, rfl, wpAny_pure hv⟩))
theorem map_end {M t I : Addr} {f : Value} {k n : Nat} {P : Nat → Value → Prop} {St : Nat → Heap → Prop} {fp : List Addr} {Q : Option Value → Shared → Prop} (D : Draws prog w A.in1 I fp n P St) (hm : s.heap.get? M = some (mobj t f)) (ht : s.heap.get? t = some (tobj #[.ref I] k)) (hst : St n s.heap)
    (hQ : ∀ h', Heap.ExtBut I s.heap h' → Q none { s with heap := h' }) : wpAny (model prog w) A (pyNext (.ref M)) Q E s := by
  have hT : s.TypeIs (.ref M) "map" := ⟨_, hm, rfl⟩
  unfold pyNext
  refine wpAny_bind (wpAny_attempt (wpAny_callSpecial?_slot (name := Str.ofString "__next__") hT slot_map_next (wpAny_call_entry slot_map_next hT zcK ?_ (zct _))))
  show wpAny _ _ (field (.ref M) 0 >>= _) _ _ _
  refine wpAny_bind (wpAny_field hm rfl (x := .ref t) rfl ?_)
  show wpAny _ _ (seqItems? (.ref t) >>= _) _ _ _
  refine wpAny_bind (wpAny_seqItems ht rfl ?_)
  show wpAny _ _ (forIn #[Value.ref I] (#[] : Array Value) _ >>= _) _ _ _
  rw [← Array.forIn_toList]
  simp only [List.forIn_cons, List.forIn_nil]
  refine wpAny_bind (wpAny_bind (wpAny_bind (wpAny_holding (D.done _ _ _ hst fun h' e he hx => ?_))))
  obtain ⟨o, ho, hc⟩ := hx
  refine wpAny_bind (wpAny_isInstance (T := "StopIteration") (b := true) ⟨o, ho, hc⟩ isSubtype_stop ?_)
  exact wpAny_pure (hQ _ he)
end
section
variable {cx : XCx} {ε : Sc}
set_option genInjectivity false in
structure MapI (cx : XCx) (F₀ : Addr → Prop) (s₀ : Shared) (a : Addr) (vs : List Value) (outs : List D) (I t M S : Addr) (f : Value) (j : Nat) (acc : Array Value) (F : Addr → Prop) (s : Shared) : Prop where
  st : Step cx F₀ s₀ F s
  it : s.heap.IsListIter I a j ∧ s.heap.IsList a vs.toArray
  hm : s.heap.get? M = some (mobj t f)
  ht : ∃ k, s.heap.get? t = some (tobj #[.ref I] k)
  hS : ∃ c, s.heap.get? S = some (lobj acc c)
  rep : RepL cx.T F s.heap acc.toList (outs.take j)
  sz : acc.size = j
  nI : ¬ F I
  nS : ¬ F S
theorem zk1 (ok : CxOk cx) {i n : Nat} {cf : Nat → List D → Option D} (calls : CallOK cx n cf) {A : Around} (bud : Bud n A.in1.in1) {F₀ : Addr → Prop} {s₀ : Shared} (w₀ : Wd cx F₀ s₀) {a I t M S : Addr} {vs : List Value} {items outs : List D} (ho : items.map (fun d => cf i [d]) = outs.map some) (hq : RepL cx.T F₀ s₀.heap vs items)
    (hl : vs.length ≤ lim) (hMI : M ≠ I) (hSI : S ≠ I) (hSM : S ≠ M) (hSt : S ≠ t) (hSa : S ≠ a) (htI : t ≠ I) (haI : a ≠ I) (nI : s₀.heap.get? I = none) (nS : s₀.heap.get? S = none) (xt : ¬ cx.X t) (xM : ¬ cx.X M) (xa : ¬ cx.X a) {R : Result → Shared → Prop} :
    ∀ (k j : Nat) (F : Addr → Prop) (s : Shared) (acc : Array Value), vs.length - j = k → j ≤ vs.length → MapI cx F₀ s₀ a vs outs I t M S (.ref (cx.fa i)) j acc F s →
    (∀ F' s' acc' c', Step cx F₀ s₀ F' s' → s'.heap.get? S = some (lobj acc' c') → RepL cx.T F' s'.heap acc'.toList outs → acc'.size ≤ lim → R (.ok (.ret (.ref S))) s') →
    codeAny (model cx.prog cx.w) A (.builtin "list.extend.loop" ⟨[.ref S, .ref M, .ref S], []⟩) R s := by
  have xI := w₀.newNotX nI
  have xS := w₀.newNotX nS
  have hvl : vs.length = items.length := hq.length
  have hol : items.length = outs.length := by have := congrArg List.length ho; rwa [List.length_map, List.length_map] at this
  intro k
  induction k with
  | zero =>
    intro j F s acc hk hj J hR
    have hin : j = vs.length := Nat.le_antisymm hj (Nat.le_of_sub_eq_zero hk)
    obtain ⟨kt, ht⟩ := J.ht
    obtain ⟨c, hS⟩ := J.hS
    have hit : s.heap.IsListIter I a vs.toArray.size := by have := J.it.1; rw [hin] at this; simpa using this
    refine codeAny_builtin PySem.F.entry_extend_loop ?_
    rw [Around.under_plainId PySem.F.plain_extend_loop _]
    show wpAny _ A.in1 (pyNext (.ref M) >>= _) _ _ s
    refine wpAny_bind (map_end (A := A.in1) (Draws.list bud.hd I a haI vs.toArray) J.hm ht ⟨hit, J.it.2⟩ fun h' he => ?_)
    have st1 := J.st.kept ok w₀ (wr := (· = I)) (fun b hb => by subst hb; exact ⟨nI, J.nI⟩) s.toks (fun b o hb e => he b o hb e)
    have hr : RepL cx.T F h' acc.toList (outs.take j) := J.rep.mono (fun _ h => h) fun b o f e => he b o (fun q => J.nI (q ▸ f)) e
    rw [hin, hvl, hol, List.take_length] at hr
    exact wpAny_pure (hR F _ acc c st1 (he S _ hSI hS) hr (by rw [J.sz, hin]; exact hl))
  | succ k ih =>
    intro j F s acc hk hj J hR
    have hlt : j < vs.length := Nat.lt_of_sub_pos (by rw [hk]; exact Nat.succ_pos _)
    obtain ⟨kt, ht⟩ := J.ht
    obtain ⟨c, hS⟩ := J.hS
    refine codeAny_builtin PySem.F.entry_extend_loop ?_
    rw [Around.under_plainId PySem.F.plain_extend_loop _]
    show wpAny _ A.in1 (pyNext (.ref M) >>= _) _ _ s
    refine wpAny_bind (zk2 (A := A.in1) (Draws.list bud.hd I a haI vs.toArray) J.hm ht J.it (by rw [List.size_toArray]; exact hlt) hMI fun x h' tk hx hit' hk' => ?_)
    replace hx : vs.toArray[j]? = some x := hx
    rw [List.getElem?_toArray] at hx
    have st1 := J.st.kept ok w₀ (wr := (· = I)) (fun b hb => by subst hb; exact ⟨nI, J.nI⟩) tk (fun b o hb e => (hk'.2 b hb).trans e)
    obtain ⟨d, hd, hr⟩ := hq.getV hx
    have hlo : j < outs.length := by rw [← hol, ← hvl]; exact hlt
    have hc : cf i [d] = some outs[j] := by
      have := congrArg (·[j]?) ho
      simp only [List.getElem?_map, hd, List.getElem?_eq_getElem hlo, Option.map_some] at this
      exact Option.some.inj this
    refine wpAny_call ((calls i [d] _ hc).2 A.in1.in1 F _ [x] bud st1.wd (.cons (st1.rep w₀ hr) .nil) _ fun v F2 s2 st2 rv => ?_)
    show wpAny _ A.in1 (updateSeq S (·.push v) >>= _) _ _ s2
    have hS1 : h'.get? S = some (lobj acc c) := (hk'.2 S hSI).trans hS
    have hS2 := st2.keep S _ hS1 xS
    have nS2 : ¬ F2 S := st2.notF J.nS hS1
    obtain ⟨oI, gI, _⟩ := id hit'.1
    have nI2 : ¬ F2 I := st2.notF J.nI gI
    have oth : ∀ b o, b ≠ S → s2.heap.get? b = some o → (s2.heap.update S (Obj.mapSeq (·.push v))).get? b = some o := fun b o hb e => (Heap.get?_update_other _ _ (Ne.symm hb)).trans e
    have st3 := (st1.trans st2).kept ok w₀ (wr := (· = S)) (fun b hb => by subst hb; exact ⟨nS, nS2⟩) s2.toks oth
    have r1 : RepL cx.T F h' acc.toList (outs.take j) := J.rep.mono (fun _ h => h) fun b o f e => (hk'.2 b (fun q => J.nI (q ▸ f))).trans e
    have r2 := (st2.repL st1.wd r1).append (.cons rv .nil)
    have r3 : RepL cx.T F2 (s2.heap.update S (Obj.mapSeq (·.push v))) (acc.push v).toList (outs.take (j + 1)) := by
      rw [Array.toList_push, List.take_add_one, List.getElem?_eq_getElem hlo]
      exact r2.mono (fun _ h => h) fun b o f e => oth b o (fun q => nS2 (q ▸ f)) e
    have zj : acc.size ≤ lim := by rw [J.sz]; exact Nat.le_trans hj hl
    refine wpAny_bind (wpAny_updateSeq hS2 rfl (wpAny_pure ⟨plainId_quiet PySem.F.plain_extend_loop _, ih (j + 1) F2 _ (acc.push v) (by rw [Nat.sub_succ, hk]; rfl) hlt ⟨st3, ⟨hit'.1.at fun o e => oth I o (Ne.symm hSI) (st2.keep I o e xI), hit'.2.at fun o e => oth a o (Ne.symm hSa) (st2.keep a o e xa)⟩, oth M _ (Ne.symm hSM) (st2.keep M _ ((hk'.2 M hMI).trans J.hm) xM), ⟨kt, oth t _ (Ne.symm hSt) (st2.keep t _ ((hk'.2 t htI).trans ht) xt)⟩, ⟨_, Heap.get?_update_self _ hS2 rfl⟩, r3, by rw [Array.size_push, J.sz], nI2, nS2⟩ hR⟩) (zaA zj) (by rw [Array.size_push]; exact Nat.succ_le_succ (zaA zj)))
theorem bud_in {n : Nat} {A : Around} (b : BudE n A) : Bud n A.in1.in1.in1.in1 := ⟨b.hd, b.dp, by have := b.sl; show A.units + 1 + 1 + 1 + 1 + 10 * n + 200 < 9900; omega, b.fs⟩
set_option genInjectivity false in
structure MapS (cx : XCx) (F : Addr → Prop) (s : Shared) (a : Addr) (vs : List Value) (f : Value) (M : Addr) (s₁ : Shared) : Prop where
  st : Step cx F s F s₁
  ex : ∃ I t, I < M ∧ t < M ∧ t ≠ I ∧ s.heap.get? I = none ∧ s.heap.get? t = none ∧ s.heap.get? M = none ∧ s₁.heap.IsListIter I a 0 ∧ s₁.heap.IsList a vs.toArray ∧ s₁.heap.get? M = some (mobj t f) ∧ ∃ k, s₁.heap.get? t = some (tobj #[.ref I] k)
theorem zk0 (ok : CxOk cx) {A : Around} {F : Addr → Prop} {s : Shared} (w : Wd cx F s) {a : Addr} {vs : List Value} {n : Nat} {f : Value} (g : s.heap.get? a = some (lobj vs.toArray n)) {Q : Value → Shared → Prop} {E : Value → Shared → Prop}
    (hQ : ∀ M s₁, MapS cx F s a vs f M s₁ → Q (.ref M) s₁) : wpAny (model cx.prog cx.w) A (call (.type "map") [f, .ref a]) Q E s := by
  refine zfU g (hQ _ _ ⟨Step.grown ok w s.toks fun _ _ e => Heap.get?_push_of_some _ (Heap.get?_push_of_some _ (Heap.get?_push_of_some _ e)), s.heap.objs.size, (mapH1 s.heap a).objs.size, ?_, ?_, ?_, zaz _, ?_, ?_, ?_, ?_, ?_, 0, ?_⟩)
  · show s.heap.objs.size < (mapH2 s.heap a).objs.size
    rw [Heap.size_push, Heap.size_push]; exact Nat.lt_succ_of_lt (Nat.lt_succ_self _)
  · have e := Heap.size_push (mapH1 s.heap a) ({ cls := .type "tuple", data := .seq #[.ref s.heap.objs.size] } : Obj)
    show (mapH1 s.heap a).objs.size < ((mapH1 s.heap a).push _).objs.size
    rw [e]; exact Nat.lt_succ_self _
  · rw [Heap.size_push]; exact Nat.succ_ne_self _
  · cases e : s.heap.get? (mapH1 s.heap a).objs.size with
    | none => rfl
    | some o => have := Heap.lt_size e; rw [Heap.size_push] at this; exact absurd this (Nat.not_lt.mpr (Nat.le_succ _))
  · cases e : s.heap.get? (mapH2 s.heap a).objs.size with
    | none => rfl
    | some o => have := Heap.lt_size e; rw [Heap.size_push, Heap.size_push] at this; exact absurd this (Nat.not_lt.mpr (Nat.le_succ_of_le (Nat.le_succ _)))
  · exact ⟨_, Heap.get?_push_of_some _ (Heap.get?_push_of_some _ (Heap.get?_push_size _ rfl)), rfl, rfl⟩
  · exact zaI (Heap.get?_push_of_some _ (Heap.get?_push_of_some _ (Heap.get?_push_of_some _ g)))
  · exact Heap.get?_push_size _ rfl
  · exact Heap.get?_push_of_some _ (Heap.get?_push_size _ rfl)
theorem zhi (ok : CxOk cx) {i n : Nat} {cf : Nat → List D → Option D} (calls : CallOK cx n cf) {A : Around} (bud : Bud n A.in1.in1) {F : Addr → Prop} {s s₁ : Shared} (w : Wd cx F s) {a M : Addr} {vs : List Value} {items outs : List D} {na : Nat} (ga : s.heap.get? a = some (lobj vs.toArray na)) (xa : ¬ cx.X a) (ho : items.map (fun d => cf i [d]) = outs.map some) (hq : RepL cx.T F s.heap vs items) (hl : vs.length ≤ lim)
    (J : MapS cx F s a vs (.ref (cx.fa i)) M s₁) {Q : List Value → Shared → Prop} {E : Value → Shared → Prop} (hQ : ∀ vs' F' s', Step cx F s F' s' → RepL cx.T F' s'.heap vs' outs → vs'.length ≤ lim → Q vs' s') : wpAny (model cx.prog cx.w) A (collect (.ref M)) Q E s₁ := by
  obtain ⟨I, t, hIM, htM, htI, nI, nt, nM, hit, hli, hm, kt, ht⟩ := J.ex
  have hT : s₁.TypeIs (.ref M) "map" := ⟨_, hm, rfl⟩
  have xM := w.newNotX nM
  have xt := w.newNotX nt
  have hMS : M < s₁.heap.objs.size := Heap.lt_size hm
  have hSM : s₁.heap.objs.size ≠ M := Nat.ne_of_gt hMS
  have hSI : s₁.heap.objs.size ≠ I := Nat.ne_of_gt (Nat.lt_trans hIM hMS)
  have hSt : s₁.heap.objs.size ≠ t := Nat.ne_of_gt (Nat.lt_trans htM hMS)
  have hSa : s₁.heap.objs.size ≠ a := Nat.ne_of_gt (Heap.lt_size (J.st.keep a _ ga xa))
  have haI : a ≠ I := fun e => by rw [e, nI] at ga; cases ga
  have nS : s.heap.get? s₁.heap.objs.size = none := J.st.fresh (J.st.wd.newNotX (zaz _)) (zaz _)
  unfold collect
  refine wpAny_bind (wpAny_runValue (codeAny_builtin PySem.F.entry_proto_collect ?_))
  rw [Around.under_plainId PySem.F.plain_proto_collect _]
  show wpAny _ A.in1 (newList [] >>= fun l => again (.builtin "list.__iadd__" ⟨[l, .ref M], []⟩)) _ _ s₁
  refine wpAny_bind (wpAny_newObj_type ?_)
  refine wpAny_pure ⟨plainId_quiet PySem.F.plain_list_iadd _, codeAny_builtin PySem.F.entry_list_iadd ?_⟩
  rw [Around.under_plainId PySem.F.plain_list_iadd _]
  show wpAny _ A.in1 (Builtin.List.listExtendWith (.ref s₁.heap.objs.size) (.ref M) (.ref s₁.heap.objs.size)) _ _ _
  unfold Builtin.List.listExtendWith
  have st1 := J.st.trans (Step.push ok J.st.wd ({ cls := .type "list", data := .seq ([] : List Value).toArray } : Obj) s₁.toks)
  have hm1 : (s₁.heap.push { cls := .type "list", data := .seq ([] : List Value).toArray }).get? M = some (mobj t (.ref (cx.fa i))) := Heap.get?_push_of_some _ hm
  have hT1 : Shared.TypeIs { s₁ with heap := s₁.heap.push { cls := .type "list", data := .seq ([] : List Value).toArray } } (.ref M) "map" := ⟨_, hm1, rfl⟩
  refine wpAny_bind (wpAny_typeOf hT1 ?_)
  have h1 : Builtin.List.listSameRef (.ref s₁.heap.objs.size) (.ref M) = false := by simp [Builtin.List.listSameRef, hSM]
  have h2 : (Value.type "map" == Value.type "list") = false := by decide
  have h3 : (Value.type "map" == Value.type "tuple") = false := by decide
  simp only [h1, h2, h3, Bool.or_false, Bool.false_eq_true, if_false]
  refine wpAny_bind (zil hm1 ?_)
  refine wpAny_bind (wpAny_holding ?_)
  unfold Builtin.List.listLengthHint
  refine wpAny_bind (wpAny_specialOf hT1 ziq ?_)
  show wpAny _ A.in1 (specialOf (Value.ref M) (Str.ofString "__length_hint__") >>= _) _ _ _
  refine wpAny_bind (wpAny_specialOf hT1 zhh ?_)
  refine wpAny_pure ?_
  show wpAny _ A.in1 (rule "list.extend.makes-room" >>= fun _ => Builtin.List.listTouch (.ref s₁.heap.objs.size) >>= fun _ =>
    again (.builtin "list.extend.loop" ⟨[.ref s₁.heap.objs.size, .ref M, .ref s₁.heap.objs.size], []⟩)) _ _ _
  refine wpAny_bind (wpAny_rule ?_)
  have hS₁ : (s₁.heap.push { cls := .type "list", data := .seq ([] : List Value).toArray }).get? s₁.heap.objs.size = some { cls := .type "list", data := .seq ([] : List Value).toArray } := Heap.get?_push_size _ rfl
  refine wpAny_bind ?_
  show wpAny _ A.in1 (updateSeq s₁.heap.objs.size (·.push .none) >>= fun _ => updateSeq s₁.heap.objs.size (·.pop)) _ _ _
  refine wpAny_bind (wpAny_updateSeq hS₁ rfl ?_)
  have hS₂ := Heap.get?_update_self (Obj.mapSeq (·.push Value.none)) hS₁ rfl
  refine wpAny_updateSeq hS₂ rfl ?_
  have hS₃ := Heap.get?_update_self (Obj.mapSeq (·.pop)) hS₂ rfl
  have oth : ∀ b o, b ≠ s₁.heap.objs.size → (s₁.heap.push { cls := .type "list", data := .seq ([] : List Value).toArray }).get? b = some o →
      (((s₁.heap.push { cls := .type "list", data := .seq ([] : List Value).toArray }).update s₁.heap.objs.size (Obj.mapSeq (·.push Value.none))).update s₁.heap.objs.size (Obj.mapSeq (·.pop))).get? b = some o :=
    fun b o hb e => (Heap.get?_update_other _ _ (Ne.symm hb)).trans ((Heap.get?_update_other _ _ (Ne.symm hb)).trans e)
  have nFS : ¬ F s₁.heap.objs.size := J.st.wd.newNotF (zaz _)
  have st2 := st1.kept ok w (wr := (· = s₁.heap.objs.size)) (fun b hb => by subst hb; exact ⟨nS, nFS⟩) s₁.toks oth
  have up : ∀ b o, b ≠ s₁.heap.objs.size → s₁.heap.get? b = some o → _ := fun b o hb e => oth b o hb (Heap.get?_push_of_some _ e)
  refine wpAny_pure ⟨plainId_quiet PySem.F.plain_extend_loop _, zk1 ok calls bud w ho hq hl (Nat.ne_of_gt hIM) hSI hSM hSt hSa htI haI nI nS xt xM xa vs.length 0 F _ #[] rfl (Nat.zero_le _) ⟨st2, ⟨hit.at fun o e => up I o (Ne.symm hSI) e, hli.at fun o e => up a o (Ne.symm hSa) e⟩, up M _ (Ne.symm hSM) hm, ⟨kt, up t _ (Ne.symm hSt) ht⟩, ⟨_, hS₃⟩, .nil, rfl, w.newNotF nI, nFS⟩ fun F' s' acc' c' st' hS' hr hz => ?_⟩
  show wpAny _ A (load s₁.heap.objs.size >>= _) _ _ s'
  refine wpAny_bind (wpAny_load hS' ?_)
  exact wpAny_pure (hQ _ F' s' st' hr (by rw [Array.length_toList]; exact hz))
theorem ziS (ok : CxOk cx) {i n : Nat} {cf : Nat → List D → Option D} (calls : CallOK cx n cf) {A : Around} (bud : Bud n A.in1.in1.in1.in1) {F : Addr → Prop} {s s₁ : Shared} (w : Wd cx F s) {a M : Addr} {vs : List Value} {items outs : List D} {na : Nat} (ga : s.heap.get? a = some (lobj vs.toArray na)) (xa : ¬ cx.X a) (ho : items.map (fun d => cf i [d]) = outs.map some) (hq : RepL cx.T F s.heap vs items) (hl : vs.length ≤ lim)
    (J : MapS cx F s a vs (.ref (cx.fa i)) M s₁) {Q : Value → Shared → Prop} {E : Value → Shared → Prop} (hQ : Post cx F s (.val (.tup outs)) Q) : wpAny (model cx.prog cx.w) A (call (.type "tuple") [.ref M]) Q E s₁ := by
  refine callType_codes (Q₁ := fun obj s₂ => s₂.TypeIs obj "tuple" ∧ Q obj s₂) PySem.F.called_tuple (PySem.F.typeCall_tuple_1 _) PySem.F.entry_object_init ?_ fun obj s₂ h₂ => ⟨h₂.1, PySem.F.args_object_init_2 obj _, object_init_meets PySem.F.called_tuple.init.lookup PySem.F.called_tuple.made (by decide) _ _ A.in1 _ s₂ ⟨h₂.1, rfl, h₂.2⟩⟩
  refine codeAny_of_tree ?_
  show wpAny _ A.in1.in1 (do checkBuiltinCall "tuple.__new__" ⟨[.type "tuple", .ref M], []⟩; again (.builtin "tuple.__new__" ⟨[.type "tuple", .ref M], []⟩)) _ _ s₁
  refine wpAny_bind (wpAny_of_eq (PySem.F.newCall_tuple_1 _) (wpAny_pure ⟨plainId_quiet PySem.F.plain_tuple_new _, codeAny_builtin PySem.F.entry_tuple_new ?_⟩))
  rw [Around.under_plainId PySem.F.plain_tuple_new _]
  have hsub := sub_tuple_self
  have hinit := init_tuple_lookup
  have hmh := madeHere_tuple
  have hTI : s₁.TypeIs (.ref M) "map" := by
    obtain ⟨I, t, _, _, _, _, _, _, _, _, hm, _⟩ := J.ex
    exact ⟨_, hm, rfl⟩
  wp_walk using wpAny_typeOf hTI, zhi ok calls bud w ga xa ho hq hl J
  intro vs' F' s' st' hr hz
  show wpAny _ _ (Builtin.Tuple.tupleExact vs'.toArray >>= fun v => ret v) _ _ _
  unfold Builtin.Tuple.tupleExact
  obtain ⟨F3, st3, r⟩ := zfA ok st'.wd s'.toks hz hr
  refine wpAny_bind (wpAny_newObj_type ?_ (by show vs'.toArray.size ≤ sizeLine; rw [List.size_toArray]; exact zaA hz))
  exact wpAny_pure ⟨⟨_, Heap.get?_push_size _ rfl, rfl⟩, hQ _ F3 _ (st'.trans st3) (.val r)⟩
theorem zfj {α : Type} : ∀ {l : List (Option α)} {o : List α}, allSome l = some o → l = o.map some
  | [], o, h => by cases h; rfl
  | none :: l, o, h => by cases h
  | some a :: l, o, h => by
    obtain ⟨r, h1, rfl⟩ := Option.map_eq_some_iff.mp (show (allSome l).map (a :: ·) = some o from h)
    rw [List.map_cons, ← zfj h1]
theorem zid {f : Str} {i : Nat} {p p' p'' pos' pos : Pos} {e : Expr} {x : X} (hk : ε.kinds.lookup ("tuple" : Str) = some .globalImplicit) (hg : cx.mg ("tuple" : Str) = none) (hk' : ε.kinds.lookup ("map" : Str) = some .globalImplicit) (hg' : cx.mg ("map" : Str) = none) (hkf : ε.kinds.lookup f = some .globalImplicit) (hvf : cx.mg f = some (.ref (cx.fa i))) (hd : (f == ("__debug__" : Str)) = false) (h : Sound cx ε e x) (hs : starred e = false) :
    Sound cx ε (.Call (.Name "tuple" p) [.Call (.Name "map" p') [.Name f p'', e] [] pos'] [] pos) (.mapF i x) := by
  refine Sound.ofE ?_ fun _ => rfl
  intro n cf A env F s ρ ad m cm H res he Q E hQ
  obtain ⟨r, items, outs, e1, e2, ho, rfl⟩ : ∃ r items outs, ev cf x ρ = some [r] ∧ r.ds = .list items ∧ items.map (fun d => cf i [d]) = outs.map some ∧ res = .val (.tup outs) := by
    replace he := (zbi _).symm.trans he
    split at he
    · rename_i r e1
      split at he
      · rename_i items e2
        obtain ⟨l, e7, e8⟩ := Option.map_eq_some_iff.mp he
        cases e8
        exact ⟨r, items, l, e1, e2, zfj e7, rfl⟩
      · cases he
    · cases he
  rw [zay (by intro _ _ _ e; cases e)]
  refine wpAny_bind (zaS H hk hg (by decide) (v := .type "tuple") (by rfl) (by decide) ?_)
  rw [zar rfl, zax]
  refine PyProof.Rows.callWith_type rfl (Calls.evalArgs_plain (Calls.spliced_cons ?_))
  rw [zay (by intro _ _ _ e; cases e)]
  refine wpAny_bind (zaS H hk' hg' (by decide) (v := .type "map") (by rfl) (by decide) ?_)
  rw [zar rfl, zax]
  refine PyProof.Rows.callWith_type (by rw [zar hs, zax]; rfl) (Calls.evalArgs_plain (Calls.spliced_cons ?_))
  refine zcc H hkf hvf hd ?_
  rw [zar hs, zax]
  refine Calls.spliced_cons ?_
  refine h.ev n cf A env F s ρ ad m cm H r e1 _ _ fun v F' s' st q => ?_
  refine Calls.spliced_nil ?_
  have qb := q.brep
  rw [e2] at qb
  obtain ⟨a, vs, k, rfl, nx, g, z, ql⟩ := qb.list_inv st.wd
  refine zk0 H.ok st.wd g fun M s₁ J => Calls.spliced_nil ?_
  exact ziS H.ok H.calls (bud_in H.bud) st.wd g nx ho ql z J fun v F3 s3 st3 rr => hQ v F3 s3 (st.trans st3) (rr.low st)
end
end Mine
end
section
open PySem PySem.Calls PyProof.Rows PySem.Builtin.Str PySem.SeqAt
namespace Mine
noncomputable def hashB (b : Bool) : Int := if b then 1 else 0
section
variable {prog : Program} {w : World} {A : Around} {E : Value → Shared → Prop} {s : Shared}
theorem zef {b : Bool} {Q : Int → Shared → Prop} (h : Q (hashB b) { s with toks := s.toks + 1 }) : wpAny (model prog w) A (pyHash (.bool b)) Q E s := by
  have hT : s.TypeIs (.bool b) "bool" := rfl
  unfold pyHash
  have hv : [Value.bool b].any Value.onHeap = false := rfl
  refine wpAny_bind ?_
  rw [cRoomFor, if_neg (by rw [hv]; exact Bool.false_ne_true)]; refine wpAny_pure ?_
  refine wpAny_bind (wpAny_specialOf hT PySem.F.slot_bool_hash.lookup ?_)
  show wpAny _ _ (if (some (Value.builtin "int.__hash__") == some Value.none) = true then _ else _) Q E s
  rw [if_neg (by rw [beq_builtin_none]; exact Bool.false_ne_true)]
  refine wpAny_bind (wpAny_specialOf hT PySem.F.slot_bool_hash.lookup ?_)
  show wpAny _ _ (callSpecialIfBoundUnlessNone? (.bool b) "__hash__" _ >>= _) Q E s
  refine wpAny_bind (wpAny_callSpecialIfBoundUnlessNone?_slot hT PySem.F.slot_bool_hash (wpAny_call_entry PySem.F.slot_bool_hash hT entry_int_hash ?_ (args_int_hash _)))
  cases b with
  | true =>
    show wpAny _ _ (do ret (← mkInt 1)) _ _ s
    exact wpAny_ret_mkInt (wpAny_pure h)
  | false =>
    show wpAny _ _ (do ret (← mkInt 0)) _ _ s
    exact wpAny_ret_mkInt (wpAny_pure h)
end
noncomputable def sT (led b : Bool) : SetTable := (layNew (SetTable.fresh 0 0 led) #[] (hashB b) (.bool b)).2.1
noncomputable def sObj0 (led : Bool) : Obj := { cls := .type "set", dict := none, data := .set #[] 0 (.fresh 0 0 led) }
noncomputable def sObj1 (led b : Bool) : Obj := { cls := .type "set", dict := none, data := .set #[(hashB b, .bool b)] 1 (sT led b) }
theorem sT_lay (led b : Bool) : layNew (SetTable.fresh 0 0 led) #[] (hashB b) (.bool b) = (#[(hashB b, .bool b)], sT led b, false, false) := by
  cases led <;> cases b <;> kernel_rfl
theorem zcM (led b : Bool) : (sT led b).fits 1 = true := by cases led <;> cases b <;> kernel_rfl
theorem zdX (led b : Bool) : (sT led b).plain = true := by cases led <;> cases b <;> kernel_rfl
theorem sT_full (led b : Bool) : (sT led b).tooFull = false := by cases led <;> cases b <;> kernel_rfl
theorem zll (led b : Bool) : (sT led b).led = led := by cases led <;> cases b <;> kernel_rfl
theorem zhy (led b : Bool) : (sT led b).place = #[(sT led b).place.getD 0 0] := by cases led <;> cases b <;> kernel_rfl
theorem scan0 (b : Bool) : byScan (.bool b) #[] = true := by cases b <;> kernel_rfl
theorem scan1 (b : Bool) : byScan (.bool b) #[(hashB b, .bool b)] = true := by cases b <;> kernel_rfl
section
variable {prog : Program} {w : World} {A : Around} {E : Value → Shared → Prop} {s : Shared}
theorem new_set {Q : Value → Shared → Prop} (h : Q (.ref s.heap.objs.size) { s with heap := s.heap.push (sObj0 (!w.params.followText "set-order")) }) : wpAny (model prog w) A (newSet (.type "set")) Q E s := by
  unfold newSet setsByText
  refine wpAny_bind (wpAny_bind (wpAny_askSetting (wpAny_pure ?_)))
  dsimp only
  simp only [newObj]
  exact wpAny_bind (wpAny_alloc (wpAny_pure h))
theorem zkp {a : Addr} {led b : Bool} {Q : Value → Shared → Prop} (g : s.heap.get? a = some (sObj0 led))
    (h : Q .none { s with heap := s.heap.update a (Obj.putSet #[(hashB b, .bool b)] (sT led b)), toks := s.toks + 1 }) : wpAny (model prog w) A (call (.builtin "set.add") [.ref a, .bool b]) Q E s := by
  have hT : s.TypeIs (.ref a) "set" := ⟨_, g, rfl⟩
  refine wpAny_call_entry PySem.F.slot_set_add hT PySem.F.entry_set_add ?_ (PySem.F.args_set_add_2 _ _)
  unfold Builtin.«set.add» Builtin.Frozenset.oneOther
  simp only [List.isEmpty_nil, bind_assoc]
  unfold Builtin.Frozenset.addrOf setAdd
  refine wpAny_bind (wpAny_pure ?_)
  try dsimp only
  refine wpAny_bind (wpAny_pure ?_)
  try dsimp only
  refine wpAny_bind ?_
  refine wpAny_holding ?_
  refine wpAny_bind (zef ?_)
  unfold setAddHashed setAddHashedIn
  have g' : ({ s with toks := s.toks + 1 } : Shared).heap.get? a = some (sObj0 led) := g
  refine wpAny_holding (wpAny_bind (wpAny_setState_of g' rfl rfl ?_))
  dsimp only
  generalize (99999 : Nat) = fu
  rw [scan0]
  simp only [↓reduceIte]
  unfold setAddByScan
  refine wpAny_bind ?_
  refine wpAny_bind (wpAny_rule ?_)
  have e1 : setScan a (.bool b) (hashB b) true #[] = pure ScanMet.absent := rfl
  rw [e1, sT_lay]
  have hp := zdX led b
  have hf := sT_full led b
  have hs : (sT led b).fits 1 = true := zcM led b
  generalize sT led b = t1 at h hp hf hs ⊢
  simp only [pure_bind, hp, if_true]
  refine wpAny_bind (show wpAny _ _ (pure ()) _ _ _ from wpAny_pure ?_)
  refine wpAny_bind (show wpAny _ _ (pure true) _ _ _ from wpAny_pure ?_)
  simp only [if_true]
  refine wpAny_bind (wpAny_storeSet_of g' rfl ?_ (by show 1 ≤ sizeLine; decide))
  simp only [hf, Bool.not_false, Bool.and_false, Bool.false_eq_true, if_false]
  refine wpAny_pure (wpAny_pure ?_)
  show wpAny _ _ (ret Value.none) _ _ _
  exact wpAny_pure ⟨_, rfl, h⟩
theorem zkq {a : Addr} {led b : Bool} {Q : Value → Shared → Prop} (g : s.heap.get? a = some (sObj1 led b)) (h : Q .none { s with toks := s.toks + 1 }) : wpAny (model prog w) A (call (.builtin "set.add") [.ref a, .bool b]) Q E s := by
  have hT : s.TypeIs (.ref a) "set" := ⟨_, g, rfl⟩
  refine wpAny_call_entry PySem.F.slot_set_add hT PySem.F.entry_set_add ?_ (PySem.F.args_set_add_2 _ _)
  unfold Builtin.«set.add» Builtin.Frozenset.oneOther
  simp only [List.isEmpty_nil, bind_assoc]
  unfold Builtin.Frozenset.addrOf setAdd
  refine wpAny_bind (wpAny_pure ?_)
  try dsimp only
  refine wpAny_bind (wpAny_pure ?_)
  try dsimp only
  refine wpAny_bind ?_
  refine wpAny_holding ?_
  refine wpAny_bind (zef ?_)
  unfold setAddHashed setAddHashedIn
  have g' : ({ s with toks := s.toks + 1 } : Shared).heap.get? a = some (sObj1 led b) := g
  have hs := zcM led b
  refine wpAny_holding (wpAny_bind (wpAny_setState_of g' rfl hs ?_))
  dsimp only
  generalize (99999 : Nat) = fu
  rw [scan1]
  simp only [↓reduceIte]
  unfold setAddByScan
  refine wpAny_bind ?_
  refine wpAny_bind (wpAny_rule ?_)
  refine wpAny_bind (m := setScan a (.bool b) (hashB b) true _) ?_
  show wpAny _ _ (setScanFrom a (.bool b) (hashB b) true [(hashB b, .bool b)] 0) _ _ _
  unfold setScanFrom
  rw [if_pos (beq_self_eq_true _)]
  unfold setEpoch
  refine wpAny_bind (wpAny_bind (wpAny_setState_of g' rfl hs (wpAny_pure ?_)))
  refine wpAny_bind (EqAt.bool_bool b b _ _ _ _ ?_)
  rw [beq_self_eq_true]
  simp only [Bool.and_self, if_true]
  refine wpAny_pure (wpAny_pure (wpAny_pure ?_))
  show wpAny _ _ (ret Value.none) _ _ _
  exact wpAny_pure ⟨_, rfl, h⟩
end
end Mine
end
section
open PySem PySem.Calls PyProof.Rows PySem.Builtin.Str PySem.SeqAt
open AutoSeq1 (wpAny_loadPart')
namespace Mine
theorem zeW : entryFor table "set.__iter__" = some PySem.Builtin.«frozenset.__iter__» :=
  entryFor_alias (id' := "frozenset.__iter__") (by kernel_rfl) rfl (by decide +kernel) (by kernel_rfl)
theorem slot_setit_next : PySem.Slot "set_iterator" "__next__" "set_iterator.__next__" :=
  .of (owner := "set_iterator") (n := "__next__") (by rw [typeLookup_type, builtinLookup_eq_fast]; kernel_rfl) (by decide +kernel) (by decide +kernel) (by decide +kernel)
    (by first | exact .inl (by decide +kernel) | exact .inr (by decide +kernel)) (by rw [isSubtype_type]; kernel_rfl)
theorem zcj : entryFor table "set_iterator.__next__" = some PySem.Builtin.«set_iterator.__next__» := entryFor_of_tree (by kernel_rfl)
theorem zb5 (a : Value) : argsOk "set_iterator.__next__" ⟨[a], []⟩ := by unfold argsOk; kernel_rfl
noncomputable abbrev itobj (a : Addr) (slot i : Nat) : Obj := { cls := .type "set_iterator", data := .fields #[rawInt slot, rawInt i, .ref a, rawInt 1, rawInt 1] }
section
variable {prog : Program} {w : World} {A : Around} {E : Value → Shared → Prop} {s : Shared}
theorem zkA {a : Addr} {led b : Bool} {Q : Value → Shared → Prop} (g : s.heap.get? a = some (sObj1 led b)) (h : Q (.ref s.heap.objs.size) { s with heap := s.heap.push (itobj a 0 0) }) : wpAny (model prog w) A (pyIter (.ref a)) Q E s := by
  have hT : s.TypeIs (.ref a) "set" := ⟨_, g, rfl⟩
  have hs := zcM led b
  have hp := zdX led b
  refine wpAny_pyIter_slot hT PySem.F.slot_set_iter (wpAny_call_entry PySem.F.slot_set_iter hT zeW ?_ (PySem.F.args_set_iter_1 _))
  unfold Builtin.«frozenset.__iter__» Builtin.Frozenset.slot0 slotArgs
  simp only [List.isEmpty_nil, Bool.not_true, Bool.false_eq_true, ↓reduceIte, bind_assoc, List.length_nil, bne_self_eq_false]
  unfold Builtin.Frozenset.addrOf Builtin.Frozenset.sizeOf
  refine wpAny_bind (wpAny_pure ?_)
  try dsimp only
  refine wpAny_bind (wpAny_pure ?_)
  refine wpAny_bind (wpAny_bind (wpAny_setEntries_of g rfl hs (wpAny_pure ?_)))
  unfold setDrawn
  refine wpAny_bind (wpAny_bind (wpAny_setState_of g rfl hs ?_))
  dsimp only
  unfold setsByText
  refine wpAny_bind (wpAny_bind (wpAny_askSetting (wpAny_pure ?_)))
  refine wpAny_pure ?_
  have hdr : ∀ c : Bool, ¬ (!c && (!(sT led b).plain && decide (1 > 1))) = true := fun c => by rw [hp]; cases c <;> decide
  show wpAny _ _ (if (!w.params.followText "set-order" && (!(sT led b).plain && decide (1 > 1))) = true then _ else _) _ _ _
  rw [if_neg (hdr _)]
  refine wpAny_bind (wpAny_pure ?_)
  unfold setEpoch
  refine wpAny_bind (wpAny_bind (wpAny_setState_of g rfl hs (wpAny_pure ?_)))
  unfold newFields
  refine wpAny_bind (wpAny_newObj_type ?_)
  exact wpAny_pure ⟨_, rfl, "set_iterator", _, ⟨_, Heap.get?_push_size _ rfl, rfl⟩, slot_setit_next.lookup, h⟩
theorem pick1 {α : Type} (f : Nat → Nat) (x : α) : pickOrder f #[x] = #[x] := by
  show pickOrder.go f 1 0 [x] #[] = #[x]
  unfold pickOrder.go
  rw [show [x][f 0 % [x].length]? = some x by rw [show [x].length = 1 from rfl, Nat.mod_one]; rfl]
  rfl
noncomputable def slotB (w : World) (led b : Bool) : Nat := if w.params.followText "set-order" = true then 0 else (sT led b).place.getD 0 0 + 1
theorem below0 (p : Nat) : SetTable.below #[p] 0 = 0 := rfl
theorem below1 (p : Nat) : SetTable.below #[p] (p + 1) = 1 := by
  show SetTable.below.go #[p] (p + 1) 1 0 1 = 1
  unfold SetTable.below.go
  simp [SetTable.below.go]
theorem zi4 {a : Addr} {led b : Bool} {Q : Option (Value × Nat) → Shared → Prop} (hl : led = !w.params.followText "set-order") (g : s.heap.get? a = some (sObj1 led b)) (h : Q (some (.bool b, slotB w led b)) s) : wpAny (model prog w) A (setNext a 0 0 1) Q E s := by
  have hs := zcM led b
  unfold setNext
  refine wpAny_bind (wpAny_setState_of g rfl hs ?_)
  dsimp only
  unfold setsByText
  refine wpAny_bind (wpAny_bind (wpAny_askSetting (wpAny_pure ?_)))
  unfold slotB at h
  have hpl := zll led b
  have hpp := zdX led b
  cases hb : w.params.followText "set-order" with
  | true =>
    rw [hb] at h
    show wpAny _ _ (if w.params.followText "set-order" = true then _ else _) _ _ _
    rw [if_pos hb]
    rw [if_neg (by decide)]
    unfold setWalk
    refine wpAny_bind (wpAny_bind (wpAny_setState_of g rfl hs ?_))
    dsimp only
    unfold setsByText
    refine wpAny_bind (wpAny_bind (wpAny_askSetting (wpAny_pure ?_)))
    show wpAny _ _ (if w.params.followText "set-order" = true then _ else _) _ _ _
    rw [if_pos hb]
    refine wpAny_bind (wpAny_askSetting (wpAny_pure ?_))
    rw [pick1]
    exact wpAny_pure h
  | false =>
    rw [hb] at h hl
    show wpAny _ _ (if w.params.followText "set-order" = true then _ else _) _ _ _
    rw [if_neg (by rw [hb]; decide)]
    have hd : ¬ (!(sT led b).plain && decide (1 > 1)) = true := by rw [hpp]; decide
    show wpAny _ _ (if (!(sT led b).plain && decide (1 > 1)) = true then _ else _) _ _ _
    rw [if_neg hd]
    have hm : ¬ (!(sT led b).led && !false) = true := by rw [hpl, hl]; decide
    refine wpAny_bind (show wpAny _ _ (if (!(sT led b).led && !false) = true then _ else pure ()) _ _ _ from ?_)
    rw [if_neg hm]
    refine wpAny_pure ?_
    have hp := zhy led b
    generalize (sT led b).place.getD 0 0 = p at hp h
    rw [hp, below0]
    exact wpAny_pure h
theorem zi3 {a : Addr} {led b : Bool} {Q : Option (Value × Nat) → Shared → Prop} (hl : led = !w.params.followText "set-order") (g : s.heap.get? a = some (sObj1 led b)) (h : Q none s) : wpAny (model prog w) A (setNext a (slotB w led b) 1 1) Q E s := by
  have hs := zcM led b
  unfold setNext
  refine wpAny_bind (wpAny_setState_of g rfl hs ?_)
  dsimp only
  unfold setsByText
  refine wpAny_bind (wpAny_bind (wpAny_askSetting (wpAny_pure ?_)))
  unfold slotB
  have hpl := zll led b
  have hpp := zdX led b
  cases hb : w.params.followText "set-order" with
  | true =>
    show wpAny _ _ (if w.params.followText "set-order" = true then _ else _) _ _ _
    rw [if_pos hb]
    rw [if_neg (by decide)]
    unfold setWalk
    refine wpAny_bind (wpAny_bind (wpAny_setState_of g rfl hs ?_))
    dsimp only
    unfold setsByText
    refine wpAny_bind (wpAny_bind (wpAny_askSetting (wpAny_pure ?_)))
    show wpAny _ _ (if w.params.followText "set-order" = true then _ else _) _ _ _
    rw [if_pos hb]
    refine wpAny_bind (wpAny_askSetting (wpAny_pure ?_))
    rw [pick1]
    exact wpAny_pure h
  | false =>
    rw [hb] at hl
    show wpAny _ _ (if w.params.followText "set-order" = true then _ else _) _ _ _
    rw [if_neg (by rw [hb]; decide)]
    have hd : ¬ (!(sT led b).plain && decide (1 > 1)) = true := by rw [hpp]; decide
    show wpAny _ _ (if (!(sT led b).plain && decide (1 > 1)) = true then _ else _) _ _ _
    rw [if_neg hd]
    have hm : ¬ (!(sT led b).led && !false) = true := by rw [hpl, hl]; decide
    refine wpAny_bind (show wpAny _ _ (if (!(sT led b).led && !false) = true then _ else pure ()) _ _ _ from ?_)
    rw [if_neg hm]
    refine wpAny_pure ?_
    have hp := zhy led b
    generalize (sT led b).place.getD 0 0 = p at hp ⊢
    rw [hp]
    simp only [Bool.false_eq_true, if_false, below1]
    exact wpAny_pure h
theorem zkB {a it : Addr} {led b : Bool} {Q : Option Value → Shared → Prop} (hl : led = !w.params.followText "set-order") (g : s.heap.get? a = some (sObj1 led b)) (hit : s.heap.get? it = some (itobj a 0 0))
    (h : ∀ h', Heap.SameBut it s.heap h' → h'.get? it = some (itobj a (slotB w led b) 1) → Q (some (.bool b)) { s with heap := h' }) : wpAny (model prog w) A (pyNext (.ref it)) Q E s := by
  have hT : s.TypeIs (.ref it) "set_iterator" := ⟨_, hit, rfl⟩
  have hs := zcM led b
  unfold pyNext
  refine wpAny_bind (wpAny_attempt (wpAny_callSpecial?_slot (name := Str.ofString "__next__") hT slot_setit_next (wpAny_call_entry slot_setit_next hT zcj ?_ (zb5 _))))
  show wpAny _ _ (fieldsOf (.ref it) >>= _) _ _ _
  refine wpAny_bind (wpAny_fieldsOf hit rfl ?_)
  show wpAny _ _ (setEntries a >>= _) _ _ _
  refine wpAny_bind (wpAny_setEntries_of g rfl hs ?_)
  show wpAny _ _ (setNext a 0 0 1 >>= _) _ _ _
  refine wpAny_bind (zi4 hl g ?_)
  show wpAny _ _ (setField (.ref it) 0 (rawInt (slotB w led b)) >>= _) _ _ _
  refine wpAny_bind (wpAny_setField_rec hit (by simp) fun h₁ hit₁ hs₁ => ?_)
  replace hs₁ : Heap.SameBut it s.heap h₁ := hs₁
  replace hit₁ : h₁.get? it = some (itobj a (slotB w led b) 0) := hit₁
  show wpAny _ _ (setField (.ref it) 1 (rawInt 1) >>= _) _ _ { s with heap := h₁ }
  refine wpAny_bind (wpAny_setField_rec hit₁ (by simp) fun h₂ hit₂ hs₂ => ?_)
  replace hs₂ : Heap.SameBut it h₁ h₂ := hs₂
  exact wpAny_pure ⟨_, rfl, wpAny_pure (h h₂ (hs₁.trans hs₂) hit₂)⟩
theorem set_end {a it : Addr} {led b : Bool} {Q : Option Value → Shared → Prop} (hh : A.handled = none) (hl : led = !w.params.followText "set-order") (g : s.heap.get? a = some (sObj1 led b)) (hit : s.heap.get? it = some (itobj a (slotB w led b) 1))
    (h : ∀ h', Heap.ExtBut it s.heap h' → Q none { s with heap := h' }) : wpAny (model prog w) A (pyNext (.ref it)) Q E s := by
  have hT : s.TypeIs (.ref it) "set_iterator" := ⟨_, hit, rfl⟩
  have hs := zcM led b
  unfold pyNext
  refine wpAny_bind (wpAny_attempt (wpAny_callSpecial?_slot (name := Str.ofString "__next__") hT slot_setit_next (wpAny_call_entry slot_setit_next hT zcj ?_ (zb5 _))))
  show wpAny _ _ (fieldsOf (.ref it) >>= _) _ _ _
  refine wpAny_bind (wpAny_fieldsOf hit rfl ?_)
  show wpAny _ _ (setEntries a >>= _) _ _ _
  refine wpAny_bind (wpAny_setEntries_of g rfl hs ?_)
  show wpAny _ _ (setNext a (slotB w led b) 1 1 >>= _) _ _ _
  refine wpAny_bind (zi3 hl g ?_)
  show wpAny _ _ (setField (.ref it) 2 .none >>= _) _ _ _
  refine wpAny_bind (wpAny_setField_rec hit (by simp) fun h₁ hit₁ hs₁ => ?_)
  show wpAny _ _ (newExc (.type "StopIteration") [] >>= _) _ _ _
  refine wpAny_bind ?_
  simp only [newExc, newTuple]
  refine wpAny_bind (wpAny_newObj_type ?_ (by size_fits))
  refine wpAny_bind (m := firstArgMember _ _) (wpAny_of_eq (a := Value.none) (by first | rfl | (simp only [firstArgMember]; rfl)) ?_)
  refine wpAny_newObj_type ?_ (by size_fits)
  simp only [raiseNew]
  refine wpAny_bind (wpAny_handled ?_)
  first | rw [show A.in1.handled = none from hh] | rw [hh]
  refine wpAny_bind (wpAny_pure (wpAny_throw ?_))
  refine wpAny_bind (wpAny_isInstance (T := "StopIteration") (b := true) ⟨_, Heap.get?_push_size _ rfl, rfl⟩ isSubtype_stop ?_)
  exact wpAny_pure (h _ ((hs₁.extBut.push _).push _))
end
end Mine
end
section
open PySem PySem.Calls PyProof.Rows PySem.Builtin.Str
namespace Mine
theorem zgH (elt target iter : Expr) (ifs : List Expr) (scope : Scope) (pos : Pos) (it acc : Value) (env : Env) :
    compTurn (.SetComp elt [⟨target, iter, ifs, 0⟩] scope pos) 0 it acc env = (do
      standAt iter.pos
      match ← pyNext it with
      | none => pure (.done .next)
      | some v =>
        letOwnedTupleGo target it v
        assign target env v
        let mut ok := true
        for c in ifs do
          if ok then ok ← isTrue c env (eval c env)
        if ok then
          (do let v ← eval elt env; standAt elt.pos; let _ ← call (.builtin "set.add") [acc, v])
        again (.compLoop (.SetComp elt [⟨target, iter, ifs, 0⟩] scope pos) 0 it acc env)) := by rfl
theorem zg2 {prog : Program} {w : World} {A : Around} {R : Result → Shared → Prop} {s : Shared} {elt target iter : Expr} {ifs : List Expr} {scope : Scope} {pos : Pos} {it acc : Value} {env : Env} (I : Nat → Shared → Prop)
    (turn : ∀ n s, I n s → wpAny (model prog w) A (pyNext it) (fun r s₁ => match r with
      | none => R (.ok .next) s₁
      | some v => wpAny (model prog w) A (letOwnedTupleGo target it v) (fun _ s₁' => wpAny (model prog w) A (assign target env v) (fun _ s₂ =>
          wpAny (model prog w) A (forIn ifs true fun c r => if r = true then do let ok ← isTrue c env (eval c env); pure (ForInStep.yield ok) else pure (ForInStep.yield r)) (fun ok s₃ =>
            if ok = true then wpAny (model prog w) A (eval elt env) (fun x s₄ =>
              wpAny (model prog w) A (call (.builtin "set.add") [acc, x]) (fun _ s₅ => ∃ m, m < n ∧ I m s₅) (notedBy (model prog w) A env fun e s' => R (.error e) s') s₄) (notedBy (model prog w) A env fun e s' => R (.error e) s') s₃
            else ∃ m, m < n ∧ I m s₃) (notedBy (model prog w) A env fun e s' => R (.error e) s') s₂) (notedBy (model prog w) A env fun e s' => R (.error e) s') s₁') (notedBy (model prog w) A env fun e s' => R (.error e) s') s₁) (notedBy (model prog w) A env fun e s' => R (.error e) s') s)
    (n : Nat) (h : I n s) :
    codeAny (model prog w) A (.compLoop (.SetComp elt [⟨target, iter, ifs, 0⟩] scope pos) 0 it acc env) R s := by
  refine codeAny_loop rfl I (fun n s hI => ?_) n h
  show wpAny _ A ((compTurn (.SetComp elt [⟨target, iter, ifs, 0⟩] scope pos) 0 it acc env).onRaise (fun x => do noteFrame x env; theTreesLotGoes x)) _ _ s
  refine wpAny_noted ?_
  rw [zgH]
  refine wpAny_bind (wpAny_standAt (wpAny_bind (wpAny_mono (turn n s hI) (fun r s₁ h₁ => ?_) fun _ _ h' => h')))
  cases r with
  | none => exact wpAny_pure h₁
  | some v =>
    refine wpAny_bind (wpAny_mono h₁ (fun _ s₁' h₁' => ?_) fun _ _ h' => h')
    refine wpAny_bind (wpAny_mono h₁' (fun _ s₂ h₂ => wpAny_bind (wpAny_mono h₂ (fun ok s₃ h₃ => ?_) fun _ _ h' => h')) fun _ _ h' => h')
    cases ok with
    | false => exact wpAny_pure ⟨rfl, h₃⟩
    | true =>
      exact wpAny_bind (wpAny_bind (wpAny_mono h₃ (fun x s₄ h₄ => wpAny_bind (wpAny_standAt (wpAny_bind (wpAny_mono h₄ (fun _ s₅ h₅ => wpAny_pure (wpAny_pure ⟨rfl, h₅⟩)) fun _ _ h' => h')))) fun _ _ h' => h'))
section
variable {prog : Program} {w : World} {A : Around} {R : Result → Shared → Prop} {E : Value → Shared → Prop} {s : Shared}
theorem zkC {elt target iter : Expr} {ifs : List Expr} {rest : List Comprehension} {scope : Scope} {pos : Pos} {it acc : Value} {env : Env}
    (h0 : codeAny (model prog w) A (.compLoop (.SetComp elt (⟨target, iter, ifs, 0⟩ :: rest) scope pos) 0 it acc env) R s)
    (h : wpAny (model prog w) A (pyIter it) (fun it' s' => codeAny (model prog w) A (.compLoop (.SetComp elt (⟨target, iter, ifs, 0⟩ :: rest) scope pos) 0 it' acc env) R s')
      (notedBy (model prog w) A env fun x s' => R (.error x) s') s) :
    codeAny (model prog w) A (.compStart (.SetComp elt (⟨target, iter, ifs, 0⟩ :: rest) scope pos) 0 it acc env) R s := by
  refine codeAny_of_tree ?_
  show wpAny _ _ ((compStart (.SetComp elt (⟨target, iter, ifs, 0⟩ :: rest) scope pos) 0 it acc env).onRaise (fun x => do noteFrame x env; standAt theWindowsPlace)) _ _ s
  refine wpAny_notedAt ?_
  unfold compStart
  show wpAny _ _ (ask >>= _) _ _ s
  refine wpAny_bind (wpAny_askSetting (wpAny_ite ?_))
  split
  · first
      | exact wpAny_bind (wpAny_pure (wpAny_pure (And.intro rfl h0)))
      | exact wpAny_pure (And.intro rfl h0)
  · first
      | exact wpAny_bind (wpAny_rule (wpAny_bind (wpAny_standAt (wpAny_bind (wpAny_mono h (fun it' s' h' => wpAny_pure (And.intro rfl h')) fun _ _ x => x)))))
      | (refine wpAny_bind (wpAny_rule ?_); show wpAny _ _ (standAt iter.pos >>= _) _ _ s; exact wpAny_bind (wpAny_standAt (wpAny_bind (wpAny_mono h (fun it' s' h' => wpAny_pure (And.intro rfl h')) fun _ _ x => x))))
theorem zgO {a : Addr} {led b : Bool} {Q : List Value → Shared → Prop} (hh : A.handled = none) (hl : led = !w.params.followText "set-order") (g : s.heap.get? a = some (sObj1 led b))
    (h : ∀ h', (∀ c o, s.heap.get? c = some o → h'.get? c = some o) → Q [.bool b] { s with heap := h' }) : wpAny (model prog w) A (unpackItems (.ref a) 1 none) Q E s := by
  have hT : s.TypeIs (.ref a) "set" := ⟨_, g, rfl⟩
  have hne : a ≠ s.heap.objs.size := Nat.ne_of_lt (Heap.lt_size g)
  unfold unpackItems
  refine wpAny_bind ?_
  unfold notIterableAtAll
  refine wpAny_bind (wpAny_specialOf hT PySem.F.slot_set_iter.lookup ?_)
  refine wpAny_pure ?_
  simp only [Bool.false_eq_true, if_false]
  refine wpAny_bind (wpAny_holding (zkA g ?_))
  have g1 : (s.heap.push (itobj a 0 0)).get? a = some (sObj1 led b) := Heap.get?_push_of_some _ g
  have i1 : (s.heap.push (itobj a 0 0)).get? s.heap.objs.size = some (itobj a 0 0) := Heap.get?_push_size _ rfl
  refine wpAny_bind (wpAny_holding ?_)
  unfold draw
  refine wpAny_bind (zkB (s := { s with heap := s.heap.push (itobj a 0 0) }) hl g1 i1 fun h₁ hs₁ i2 => ?_)
  refine wpAny_bind (wpAny_holding ?_)
  unfold draw
  refine wpAny_pure (wpAny_pure ?_)
  rw [if_neg (show ¬ ([Value.bool b].length < 1) from Nat.lt_irrefl 1)]
  refine wpAny_bind (wpAny_holding (set_end (s := { s with heap := h₁ }) hh hl ((hs₁.2 a hne).trans g1) i2 fun h₂ he => ?_))
  simp only [Option.isSome_none, Bool.false_eq_true, if_false]
  refine wpAny_pure (h h₂ fun c o e => ?_)
  have hc : c ≠ s.heap.objs.size := Nat.ne_of_lt (Heap.lt_size e)
  exact he c o hc ((hs₁.2 c hc).trans (Heap.get?_push_of_some _ e))
end
section
variable {cx : XCx} {ε : Sc}
noncomputable def ledOf (w : World) : Bool := !w.params.followText "set-order"
inductive StP (w : World) (o : Obj) : List Value → List D → Prop
  | nil : o = sObj0 (ledOf w) → StP w o [] []
  | one {ys : List Value} {ds : List D} (b : Bool) : (∀ d ∈ ds, d = .bool b) → ds ≠ [] → o = sObj1 (ledOf w) b → StP w o ys ds
theorem accSet {elt tg iter : Expr} {ifs : List Expr} {scope : Scope} {pos : Pos} : AccK cx (.SetComp elt [⟨tg, iter, ifs, 0⟩] scope pos) elt tg iter ifs (newSet (.type "set")) "set.add" (StP cx.w) (fun l => ∃ b, ∀ d ∈ l, d = D.bool b) where
  cl := rfl
  start := fun h0 h => zkC h0 h
  loop := fun I turn n h => zg2 I turn n h
  new := fun h => new_set (h _ (.nil rfl) rfl)
  pre := fun ⟨b, h⟩ => ⟨b, fun d hd => h d (List.mem_append_left _ hd)⟩
  add := fun {A Q E s F Da o ys ds v y} g hP z r hg h => by
    obtain ⟨b, hb⟩ := hg
    have hy : y = .bool b := hb y (List.mem_append_right _ (List.mem_singleton.mpr rfl))
    subst hy
    cases r with
    | bool =>
      cases hP with
      | nil e =>
        subst e
        refine zkp g (h _ _ (sObj1 (ledOf cx.w) b) (Heap.SameBut.update ..) (Heap.get?_update_self _ g rfl) (.one b hb (by simp) rfl))
      | one c hc h0 e =>
        subst e
        have ebc : b = c := by
          cases ds with
          | nil => exact absurd rfl h0
          | cons d ds =>
            have h1 := hb d (List.mem_append_left _ List.mem_cons_self)
            have h2 := hc d List.mem_cons_self
            rw [h1] at h2
            exact D.bool.inj h2
        subst ebc
        exact zkq g (h s.heap (s.toks + 1) _ (Heap.SameBut.refl ..) g (.one b hb (by simp) rfl))
theorem ev_setI {cf : Nat → List D → Option D} {i : Nat} {it e : X} {ρ : List Slot} {r : R} (h : ev cf (.setI i it e) ρ = some [r]) :
    ∃ items l b, evI cf it ρ = some items ∧ compGo (turnC cf [i] one1 (.const (.bool true)) e ρ) items = some l ∧ l ≠ [] ∧ (∀ d ∈ l, d = D.bool b) ∧ r = .val (.bool b) := by
  replace h := (zbg _).symm.trans h
  split at h
  · rename_i items e1
    split at h
    · rename_i b l e2
      split at h
      · rename_i hall
        cases h
        refine ⟨items, _, b, by unfold evI; rw [e1], e2, by simp, fun d hd => ?_, rfl⟩
        rcases List.mem_cons.mp hd with rfl | hd
        · rfl
        · have := List.all_eq_true.mp hall d hd
          cases d <;> first | (cases this; done) | exact congrArg D.bool (eq_of_beq this)
      · cases h
    · cases h
  · cases h
theorem zi2 {elt iter tg : Expr} {ifs : List Expr} {scope : Scope} {pos : Pos} {xs : List Str} {is : List Nat} {bind : D → Option (List D)} {c e it : X} (K : CompX cx ε elt iter tg ifs scope xs is bind it c e)
    {n cf A env F s ρ ad m cm} (H : Here cx ε n cf A env F s ρ ad m cm) {items l : List D} {b : Bool} (hit : evI cf it ρ = some items) (hl : compGo (turnC cf is bind c e ρ) items = some l) (h0 : l ≠ []) (hb : ∀ d ∈ l, d = D.bool b)
    {Q : Value → Shared → Prop} {E : Value → Shared → Prop} (hQ : ∀ Da F' s', Step cx F s F' s' → s'.heap.get? Da = some (sObj1 (ledOf cx.w) b) → Q (.ref Da) s') :
    wpAny (model cx.prog cx.w) A (eval (.SetComp elt [⟨tg, iter, ifs, 0⟩] scope pos) env) Q E s := by
  rw [PySem.arm_eval_SetComp]
  refine zfg (use := none) accSet K.hT K.hb K.hi K.ok K.hc K.he K.hs H hit hl ⟨b, hb⟩ fun Da C F' s' m' ob ys st f0 nf nx g hP q z hn frC nC hne => ?_
  refine ⟨m', hn, fun h'' sb => ?_⟩
  have st2 : Step cx F s F' { s' with heap := h'' } := st.kept H.ok H.wd (wr := (· = C)) (fun b hb => by subst hb; exact ⟨frC, nC⟩) s'.toks fun a o h e => (sb.2 a h).trans e
  refine hQ Da F' _ st2 ((sb.2 Da hne.symm).trans ?_)
  cases hP with
  | nil => exact absurd rfl h0
  | one c hc _ e =>
    have ebc : b = c := by
      cases l with
      | nil => exact absurd rfl h0
      | cons d l =>
        have h1 := hb d List.mem_cons_self
        have h2 := hc d List.mem_cons_self
        rw [h1] at h2
        exact D.bool.inj h2
    rw [ebc, ← e]; exact g
theorem zdP {x : Str} {j : Nat} {p pos' pos cpos : Pos} {k : Nat} {elt iter tg : Expr} {ifs : List Expr} {scope : Scope} {y : Str} {i : Nat} {e it : X} (hx : ε.vars.lookup x = some j) (hfx : ε.kinds.lookup x ≠ some .free) (K : CompX cx ε elt iter tg ifs scope [y] [i] one1 it (.const (.bool true)) e)
    (hw : ∀ env, swappedStores [.Tuple [.Name x p] k pos'] (.SetComp elt [⟨tg, iter, ifs, 0⟩] scope cpos) env = pure none) :
    SoundS cx ε (.Assign [.Tuple [.Name x p] k pos'] (.SetComp elt [⟨tg, iter, ifs, 0⟩] scope cpos) pos) (.assign j (.setI i it e)) := by
  intro n cf A env F s ρ ad m cm H ρ' o he Q E hQ
  replace he := (zcE cf).symm.trans he
  obtain ⟨d, e0, e00⟩ := Option.map_eq_some_iff.mp he
  cases e00
  obtain ⟨r, e1, er⟩ : ∃ r, ev cf (.setI i it e) ρ = some [r] ∧ r.fz = some d := by
    unfold ev1 at e0
    split at e0
    · rename_i r e1; exact ⟨r, e1, e0⟩
    · cases e0
  obtain ⟨items, l, b, a1, a2, a3, a4, rfl⟩ := ev_setI e1
  cases er
  refine wpAny_Assign_stores (zi2 K H.here a1 a2 a3 a4 fun Da F1 s1 st g => ?_) rfl (hw env)
  show wpAny _ _ (assign (.Tuple [.Name x p] k pos') env (.ref Da)) _ _ _
  rw [arm_assign_Tuple]
  refine wpAny_bind (wpAny_standAt ?_)
  unfold unpack
  refine wpAny_bind (wpAny_holding (zgO H.bud.hd rfl g fun h' hk => ?_))
  have st1 := st.trans (Step.grown H.ok st.wd s1.toks hk)
  show wpAny _ _ (assignInOrder [fun v => assign (.Name x p) env v] [Value.bool b]) _ _ _
  unfold assignInOrder
  refine wpAny_bind (wpAny_holding (wpAny_assign_Name ?_))
  refine zcw H st1 hx hfx (sl := .val (.bool b)) (ad' := ad) (fun _ _ => rfl) (.inl rfl) (fun h' _ => .val (.bool b)) (fun _ e => nomatch e) fun s'' m'' cm'' _ x f => ?_
  exact wpAny_pure (hQ .next F1 s'' ad m'' cm'' x f .next)
end
end Mine
end
section
open PySem
namespace Mine
noncomputable def s_escape : S := (.seq (.ite (.op .isInst (.cons (.var 0) (.cons (.const (.ty "str")) .nil))) (.seq (.ret (.op .translate (.cons (.var 0) .nil))) .skip) dead) .skip)
noncomputable def fn_escape : Fn := { np := 1, va := false, ns := 1, body := s_escape }
noncomputable def s_fspath : S := (.seq (.assign 1 (.op .tyOf (.cons (.var 0) .nil))) (.seq (.ite (.op .isSub (.cons (.var 1) (.cons (.tup (.cons (.const (.ty "str")) (.cons (.const (.ty "bytes")) .nil))) .nil))) (.seq (.ret (.var 0)) .skip) .skip) dead))
noncomputable def fn_fspath : Fn := { np := 1, va := false, ns := 4, body := s_fspath }
noncomputable def s_get_sep : S := (.seq (.ite (.op .isInst (.cons (.var 0) (.cons (.const (.ty "bytes")) .nil))) dead (.seq (.ret (.const (.str [47]))) .skip)) .skip)
noncomputable def fn_get_sep : Fn := { np := 1, va := false, ns := 1, body := s_get_sep }
noncomputable def s_join : S := (.seq (.assign 0 (.call 2 (.cons (.var 0) .nil))) (.seq (.assign 2 (.call 3 (.cons (.var 0) .nil))) (.seq (.assign 3 (.var 0)) (.seq (.try_ (.seq (.forE 4 (.seqI (.var 1)) (.seq (.assign 4 (.call 2 (.cons (.var 4) .nil))) (.seq (.ite (.or (.op .startswith (.cons (.var 4) (.cons (.var 2) .nil))) (.not (.var 3))) (.seq (.assign 3 (.var 4)) .skip) (.seq (.ite (.op .endswith (.cons (.var 3) (.cons (.var 2) .nil))) (.seq (.aug 3 (.var 4)) .skip) (.seq (.aug 3 (.op .add (.cons (.var 2) (.cons (.var 4) .nil)))) .skip)) .skip)) .skip))) .skip)) (.seq (.ret (.var 3)) .skip)))))
noncomputable def fn_join : Fn := { np := 1, va := true, ns := 5, body := s_join }
noncomputable def s_law_one : S := (.seq (.ite (.or (.op .eq (.cons (.var 0) (.cons (.const (.str [46])) .nil))) (.op .eq (.cons (.var 0) (.cons (.const (.str [40, 63, 33, 41])) .nil)))) (.seq (.ret (.op .eq (.cons (.var 0) (.cons (.const (.str [46])) .nil)))) .skip) .skip) (.seq (.ite (.op .ne (.cons (.op .index (.cons (.var 0) (.cons (.const (.int 0)) .nil))) (.cons (.const (.str [91])) .nil))) (.seq (.ret (.op .eq (.cons (.op .index (.cons (.var 0) (.cons (.op .neg (.cons (.const (.int 1)) .nil)) .nil))) (.cons (.var 1) .nil)))) .skip) .skip) (.seq (.assign 2 (.op .slice (.cons (.var 0) (.cons (.const (.int 1)) (.cons (.op .neg (.cons (.const (.int 1)) .nil)) .nil))))) (.seq (.assign 3 (.op .eq (.cons (.op .index (.cons (.var 2) (.cons (.const (.int 0)) .nil))) (.cons (.const (.str [94])) .nil)))) (.seq (.assign 4 (.ite (.var 3) (.const (.int 1)) (.const (.int 0)))) (.seq (.assign 5 (.const (.bool false))) (.seq (.while (.op .lt (.cons (.var 4) (.cons (.op .len (.cons (.var 2) .nil)) .nil))) (.seq (.ite (.op .eq (.cons (.op .index (.cons (.var 2) (.cons (.var 4) .nil))) (.cons (.const (.str [92])) .nil))) (.seq (.assign 4 (.op .add (.cons (.var 4) (.cons (.const (.int 1)) .nil)))) .skip) .skip) (.seq (.assign 6 (.op .index (.cons (.var 2) (.cons (.var 4) .nil)))) (.seq (.assign 7 (.var 6)) (.seq (.assign 4 (.op .add (.cons (.var 4) (.cons (.const (.int 1)) .nil)))) (.seq (.ite (.and (.op .lt (.cons (.op .add (.cons (.var 4) (.cons (.const (.int 1)) .nil))) (.cons (.op .len (.cons (.var 2) .nil)) .nil))) (.op .eq (.cons (.op .index (.cons (.var 2) (.cons (.var 4) .nil))) (.cons (.const (.str [45])) .nil)))) (.seq (.assign 4 (.op .add (.cons (.var 4) (.cons (.const (.int 1)) .nil)))) (.seq (.ite (.op .eq (.cons (.op .index (.cons (.var 2) (.cons (.var 4) .nil))) (.cons (.const (.str [92])) .nil))) (.seq (.assign 4 (.op .add (.cons (.var 4) (.cons (.const (.int 1)) .nil)))) .skip) .skip) (.seq (.assign 7 (.op .index (.cons (.var 2) (.cons (.var 4) .nil)))) (.seq (.assign 4 (.op .add (.cons (.var 4) (.cons (.const (.int 1)) .nil)))) .skip)))) .skip) (.seq (.ite (.and (.op .le (.cons (.var 6) (.cons (.var 1) .nil))) (.op .le (.cons (.var 1) (.cons (.var 7) .nil)))) (.seq (.assign 5 (.const (.bool true))) .skip) .skip) .skip))))))) (.seq (.ret (.op .ne (.cons (.var 5) (.cons (.var 3) .nil)))) .skip))))))))
noncomputable def fn_law_one : Fn := { np := 2, va := false, ns := 8, body := s_law_one }
noncomputable def s_law_takes : S := (.seq (.assign 3 (.list (.cons (.const (.int 0)) .nil))) (.seq (.forE 4 (.seqI (.var 0)) (.seq (.ite (.op .is_ (.cons (.var 4) (.cons (.var 1) .nil))) (.seq (.assign 3 (.ite (.var 3) (.op .listOf (.cons (.rangeI (.cons (.op .index (.cons (.var 3) (.cons (.const (.int 0)) .nil))) (.cons (.op .add (.cons (.op .len (.cons (.var 2) .nil)) (.cons (.const (.int 1)) .nil))) .nil))) .nil)) (.list .nil))) .skip) (.seq (.assign 3 (.comp 5 (.seqI (.var 3)) (.and (.op .lt (.cons (.var 5) (.cons (.op .len (.cons (.var 2) .nil)) .nil))) (.call 14 (.cons (.var 4) (.cons (.op .index (.cons (.var 2) (.cons (.var 5) .nil))) .nil)))) (.op .add (.cons (.var 5) (.cons (.const (.int 1)) .nil))))) .skip)) .skip)) (.seq (.ret (.op .in_ (.cons (.op .len (.cons (.var 2) .nil)) (.cons (.var 3) .nil)))) .skip)))
noncomputable def fn_law_takes : Fn := { np := 3, va := false, ns := 6, body := s_law_takes }
noncomputable def s_dirname : S := (.seq (.assign 0 (.call 2 (.cons (.var 0) .nil))) (.seq (.assign 1 (.call 3 (.cons (.var 0) .nil))) (.seq (.assign 2 (.op .add (.cons (.op .rfind (.cons (.var 0) (.cons (.var 1) .nil))) (.cons (.const (.int 1)) .nil)))) (.seq (.assign 3 (.op .slice (.cons (.var 0) (.cons (.const .none) (.cons (.var 2) .nil))))) (.seq (.ite (.and (.var 3) (.op .ne (.cons (.var 3) (.cons (.op .mul (.cons (.var 1) (.cons (.op .len (.cons (.var 3) .nil)) .nil))) .nil)))) (.seq (.assign 3 (.op .rstrip (.cons (.var 3) (.cons (.var 1) .nil)))) .skip) .skip) (.seq (.ret (.var 3)) .skip))))))
noncomputable def fn_dirname : Fn := { np := 1, va := false, ns := 4, body := s_dirname }
noncomputable def s_commonpath : S := (.seq (.assign 0 (.mapF 2 (.var 0))) (.seq (.ite (.not (.var 0)) dead .skip) (.seq (.ite (.op .isInst (.cons (.op .index (.cons (.var 0) (.cons (.const (.int 0)) .nil))) (.cons (.const (.ty "bytes")) .nil))) dead (.seq (.assign 1 (.const (.str [47]))) (.seq (.assign 2 (.const (.str [46]))) .skip))) (.seq (.try_ (.seq (.assign 3 (.comp 11 (.seqI (.var 0)) (.const (.bool true)) (.op .split (.cons (.var 11) (.cons (.var 1) .nil))))) (.seq (.try_ (.seq (.assign 4 (.setI 12 (.seqI (.var 0)) (.op .startswith (.cons (.var 12) (.cons (.var 1) .nil))))) .skip)) (.seq (.assign 3 (.comp 13 (.seqI (.var 3)) (.const (.bool true)) (.comp 14 (.seqI (.var 13)) (.and (.var 14) (.op .ne (.cons (.var 14) (.cons (.var 2) .nil)))) (.var 14)))) (.seq (.assign 6 (.op .min (.cons (.var 3) .nil))) (.seq (.assign 7 (.op .max (.cons (.var 3) .nil))) (.seq (.assign 8 (.var 6)) (.seq (.forE2 9 5 (.enumI (.var 6)) (.seq (.ite (.op .ne (.cons (.var 5) (.cons (.op .index (.cons (.var 7) (.cons (.var 9) .nil))) .nil))) (.seq (.assign 8 (.op .slice (.cons (.var 6) (.cons (.const .none) (.cons (.var 9) .nil))))) (.seq .brk .skip)) .skip) .skip)) (.seq (.assign 10 (.ite (.var 4) (.var 1) (.op .slice (.cons (.var 1) (.cons (.const .none) (.cons (.const (.int 0)) .nil)))))) (.seq (.ret (.op .add (.cons (.var 10) (.cons (.op .join (.cons (.var 1) (.cons (.var 8) .nil))) .nil)))) .skip)))))))))) .skip))))
noncomputable def fn_commonpath : Fn := { np := 1, va := false, ns := 15, body := s_commonpath }
noncomputable def s_law_quoted : S := (.seq (.ret (.op .join (.cons (.const (.str [])) (.cons (.comp 1 (.seqI (.var 0)) (.const (.bool true)) (.ite (.op .in_ (.cons (.var 1) (.cons (.const (.str [42, 63, 91])) .nil))) (.op .add (.cons (.op .add (.cons (.const (.str [91])) (.cons (.var 1) .nil))) (.cons (.const (.str [93])) .nil))) (.var 1))) .nil)))) .skip)
noncomputable def fn_law_quoted : Fn := { np := 1, va := false, ns := 2, body := s_law_quoted }
noncomputable def s_splitroot : S := (.seq (.assign 0 (.call 2 (.cons (.var 0) .nil))) (.seq (.ite (.op .isInst (.cons (.var 0) (.cons (.const (.ty "bytes")) .nil))) dead (.seq (.assign 1 (.const (.str [47]))) (.seq (.assign 2 (.const (.str []))) .skip))) (.seq (.ite (.op .ne (.cons (.op .slice (.cons (.var 0) (.cons (.const .none) (.cons (.const (.int 1)) .nil)))) (.cons (.var 1) .nil))) (.seq (.ret (.tup (.cons (.var 2) (.cons (.var 2) (.cons (.var 0) .nil))))) .skip) (.seq (.ite (.or (.op .ne (.cons (.op .slice (.cons (.var 0) (.cons (.const (.int 1)) (.cons (.const (.int 2)) .nil)))) (.cons (.var 1) .nil))) (.op .eq (.cons (.op .slice (.cons (.var 0) (.cons (.const (.int 2)) (.cons (.const (.int 3)) .nil)))) (.cons (.var 1) .nil)))) (.seq (.ret (.tup (.cons (.var 2) (.cons (.var 1) (.cons (.op .slice (.cons (.var 0) (.cons (.const (.int 1)) (.cons (.const .none) .nil)))) .nil))))) .skip) (.seq (.ret (.tup (.cons (.var 2) (.cons (.op .slice (.cons (.var 0) (.cons (.const .none) (.cons (.const (.int 2)) .nil)))) (.cons (.op .slice (.cons (.var 0) (.cons (.const (.int 2)) (.cons (.const .none) .nil)))) .nil))))) .skip)) .skip)) .skip)))
noncomputable def fn_splitroot : Fn := { np := 1, va := false, ns := 3, body := s_splitroot }
noncomputable def s_normpath : S := (.seq (.assign 0 (.call 2 (.cons (.var 0) .nil))) (.seq (.ite (.op .isInst (.cons (.var 0) (.cons (.const (.ty "bytes")) .nil))) dead (.seq (.assign 1 (.const (.str [47]))) (.seq (.assign 2 (.const (.str [46]))) (.seq (.assign 3 (.const (.str [46, 46]))) .skip)))) (.seq (.ite (.not (.var 0)) (.seq (.ret (.var 2)) .skip) .skip) (.seq (.assign3 4 5 0 (.call 7 (.cons (.var 0) .nil))) (.seq (.assign 6 (.op .split (.cons (.var 0) (.cons (.var 1) .nil)))) (.seq (.assignO 7 (.list .nil)) (.seq (.forE 8 (.seqI (.var 6)) (.seq (.ite (.or (.not (.var 8)) (.op .eq (.cons (.var 8) (.cons (.var 2) .nil)))) (.seq .cont .skip) .skip) (.seq (.ite (.or (.op .ne (.cons (.var 8) (.cons (.var 3) .nil))) (.or (.and (.not (.var 5)) (.not (.var 7))) (.and (.var 7) (.op .eq (.cons (.op .index (.cons (.var 7) (.cons (.op .neg (.cons (.const (.int 1)) .nil)) .nil))) (.cons (.var 3) .nil)))))) (.seq (.append 7 (.var 8)) .skip) (.seq (.ite (.var 7) (.seq (.pop 7) .skip) .skip) .skip)) .skip))) (.seq (.seq (.fz 7) (.assign 6 (.var 7))) (.seq (.assign 0 (.op .add (.cons (.var 5) (.cons (.op .join (.cons (.var 1) (.cons (.var 6) .nil))) .nil)))) (.seq (.ret (.or (.var 0) (.var 2))) .skip))))))))))
noncomputable def fn_normpath : Fn := { np := 1, va := false, ns := 9, body := s_normpath }
noncomputable def s_abspath : S := (.seq (.assign 0 (.call 2 (.cons (.var 0) .nil))) (.seq (.ite (.op .isInst (.cons (.var 0) (.cons (.const (.ty "bytes")) .nil))) dead (.seq (.ite (.not (.op .startswith (.cons (.var 0) (.cons (.const (.str [47])) .nil)))) dead .skip) .skip)) (.seq (.ret (.call 9 (.cons (.var 0) .nil))) .skip)))
noncomputable def fn_abspath : Fn := { np := 1, va := false, ns := 1, body := s_abspath }
noncomputable def s_relpath : S := (.seq (.assign 0 (.call 2 (.cons (.var 0) .nil))) (.seq (.ite (.not (.var 0)) dead .skip) (.seq (.ite (.op .isInst (.cons (.var 0) (.cons (.const (.ty "bytes")) .nil))) dead (.seq (.assign 2 (.const (.str [46]))) (.seq (.assign 3 (.const (.str [47]))) (.seq (.assign 4 (.const (.str [46, 46]))) .skip)))) (.seq (.ite (.op .is_ (.cons (.var 1) (.cons (.const .none) .nil))) (.seq (.assign 1 (.var 2)) .skip) (.seq (.assign 1 (.call 2 (.cons (.var 1) .nil))) .skip)) (.seq (.try_ (.seq (.assign 5 (.op .lstrip (.cons (.call 10 (.cons (.var 1) .nil)) (.cons (.var 3) .nil)))) (.seq (.assign 6 (.op .lstrip (.cons (.call 10 (.cons (.var 0) .nil)) (.cons (.var 3) .nil)))) (.seq (.assign 7 (.ite (.var 5) (.op .split (.cons (.var 5) (.cons (.var 3) .nil))) (.list .nil))) (.seq (.assign 8 (.ite (.var 6) (.op .split (.cons (.var 6) (.cons (.var 3) .nil))) (.list .nil))) (.seq (.assign 9 (.op .len (.cons (.call 12 (.cons (.list (.cons (.var 7) (.cons (.var 8) .nil))) .nil)) .nil))) (.seq (.assign 10 (.op .add (.cons (.op .mul (.cons (.list (.cons (.var 4) .nil)) (.cons (.op .sub (.cons (.op .len (.cons (.var 7) .nil)) (.cons (.var 9) .nil))) .nil))) (.cons (.op .slice (.cons (.var 8) (.cons (.var 9) (.cons (.const .none) .nil)))) .nil)))) (.seq (.ite (.not (.var 10)) (.seq (.ret (.var 2)) .skip) .skip) (.seq (.ret (.op .join (.cons (.var 3) (.cons (.var 10) .nil)))) .skip))))))))) .skip)))))
noncomputable def fn_relpath : Fn := { np := 2, va := false, ns := 11, body := s_relpath }
noncomputable def s_commonprefix : S := (.seq (.ite (.not (.var 0)) (.seq (.ret (.const (.str []))) .skip) .skip) (.seq (.ite (.not (.op .isInst (.cons (.op .index (.cons (.var 0) (.cons (.const (.int 0)) .nil))) (.cons (.tup (.cons (.const (.ty "list")) (.cons (.const (.ty "tuple")) .nil))) .nil)))) dead .skip) (.seq (.assign 1 (.op .min (.cons (.var 0) .nil))) (.seq (.assign 2 (.op .max (.cons (.var 0) .nil))) (.seq (.forE2 3 4 (.enumI (.var 1)) (.seq (.ite (.op .ne (.cons (.var 4) (.cons (.op .index (.cons (.var 2) (.cons (.var 3) .nil))) .nil))) (.seq (.ret (.op .slice (.cons (.var 1) (.cons (.const .none) (.cons (.var 3) .nil))))) .skip) .skip) .skip)) (.seq (.ret (.var 1)) .skip))))))
noncomputable def fn_commonprefix : Fn := { np := 1, va := false, ns := 5, body := s_commonprefix }
noncomputable def s_law_told : S := (.seq (.ret (.op .add (.cons (.const (.str [47])) (.cons (.op .join (.cons (.const (.str [47])) (.cons (.var 0) .nil))) .nil)))) .skip)
noncomputable def fn_law_told : Fn := { np := 1, va := false, ns := 1, body := s_law_told }
noncomputable def s_translate8 : S := (.seq (.assignO 3 (.list .nil)) (.seq (.alias 4 3) (.seq (.assign2 5 6 (.tup (.cons (.const (.int 0)) (.cons (.op .len (.cons (.var 0) .nil)) .nil)))) (.seq (.while (.op .lt (.cons (.var 5) (.cons (.var 6) .nil))) (.seq (.assign 7 (.op .index (.cons (.var 0) (.cons (.var 5) .nil)))) (.seq (.assign 5 (.op .add (.cons (.var 5) (.cons (.const (.int 1)) .nil)))) (.seq (.ite (.op .eq (.cons (.var 7) (.cons (.const (.str [42])) .nil))) (.seq (.ite (.or (.not (.var 3)) (.op .isnot (.cons (.op .index (.cons (.var 3) (.cons (.op .neg (.cons (.const (.int 1)) .nil)) .nil))) (.cons (.var 1) .nil)))) (.seq (.appendVia 4 3 (.var 1)) .skip) .skip) .skip) (.seq (.ite (.op .eq (.cons (.var 7) (.cons (.const (.str [63])) .nil))) (.seq (.appendVia 4 3 (.var 2)) .skip) (.seq (.ite (.op .eq (.cons (.var 7) (.cons (.const (.str [91])) .nil))) (.seq (.assign 8 (.var 5)) (.seq (.ite (.and (.op .lt (.cons (.var 8) (.cons (.var 6) .nil))) (.op .eq (.cons (.op .index (.cons (.var 0) (.cons (.var 8) .nil))) (.cons (.const (.str [33])) .nil)))) (.seq (.assign 8 (.op .add (.cons (.var 8) (.cons (.const (.int 1)) .nil)))) .skip) .skip) (.seq (.ite (.and (.op .lt (.cons (.var 8) (.cons (.var 6) .nil))) (.op .eq (.cons (.op .index (.cons (.var 0) (.cons (.var 8) .nil))) (.cons (.const (.str [93])) .nil)))) (.seq (.assign 8 (.op .add (.cons (.var 8) (.cons (.const (.int 1)) .nil)))) .skip) .skip) (.seq (.while (.and (.op .lt (.cons (.var 8) (.cons (.var 6) .nil))) (.op .ne (.cons (.op .index (.cons (.var 0) (.cons (.var 8) .nil))) (.cons (.const (.str [93])) .nil)))) (.seq (.assign 8 (.op .add (.cons (.var 8) (.cons (.const (.int 1)) .nil)))) .skip)) (.seq (.ite (.op .ge (.cons (.var 8) (.cons (.var 6) .nil))) (.seq (.appendVia 4 3 (.const (.str [92, 91]))) .skip) (.seq (.assign 9 (.op .slice (.cons (.var 0) (.cons (.var 5) (.cons (.var 8) .nil))))) (.seq (.ite (.op .notin (.cons (.const (.str [45])) (.cons (.var 9) .nil))) (.seq (.assign 9 (.op .replace (.cons (.var 9) (.cons (.const (.str [92])) (.cons (.const (.str [92, 92])) .nil))))) .skip) dead) (.seq (.assign 9 (.op .resub0 (.cons (.var 9) .nil))) (.seq (.assign 5 (.op .add (.cons (.var 8) (.cons (.const (.int 1)) .nil)))) (.seq (.ite (.not (.var 9)) (.seq (.appendVia 4 3 (.const (.str [40, 63, 33, 41]))) .skip) (.seq (.ite (.op .eq (.cons (.var 9) (.cons (.const (.str [33])) .nil))) (.seq (.appendVia 4 3 (.const (.str [46]))) .skip) (.seq (.ite (.op .eq (.cons (.op .index (.cons (.var 9) (.cons (.const (.int 0)) .nil))) (.cons (.const (.str [33])) .nil))) (.seq (.assign 9 (.op .add (.cons (.const (.str [94])) (.cons (.op .slice (.cons (.var 9) (.cons (.const (.int 1)) (.cons (.const .none) .nil)))) .nil)))) .skip) (.seq (.ite (.op .in_ (.cons (.op .index (.cons (.var 9) (.cons (.const (.int 0)) .nil))) (.cons (.tup (.cons (.const (.str [94])) (.cons (.const (.str [91])) .nil))) .nil))) (.seq (.assign 9 (.op .add (.cons (.const (.str [92])) (.cons (.var 9) .nil)))) .skip) .skip) .skip)) (.seq (.appendVia 4 3 (.op .fmt (.cons (.const (.str [91])) (.cons (.var 9) (.cons (.const (.str [93])) .nil))))) .skip))) .skip)) .skip)))))) .skip))))) (.seq (.appendVia 4 3 (.call 0 (.cons (.var 7) .nil))) .skip)) .skip)) .skip)) .skip)))) (.seq (.assert (.op .eq (.cons (.var 5) (.cons (.var 6) .nil)))) (.seq (.seq (.fz 3) (.ret (.var 3))) .skip))))))
noncomputable def fn_translate8 : Fn := { np := 3, va := false, ns := 13, body := s_translate8 }
noncomputable def s_law_drawn : S := (.seq (.assignO 1 (.list .nil)) (.seq (.assign 2 (.op .abs (.cons (.var 0) .nil))) (.seq (.while (.and (.op .gt (.cons (.var 2) (.cons (.const (.int 0)) .nil))) (.op .lt (.cons (.op .len (.cons (.var 1) .nil)) (.cons (.const (.int 4)) .nil)))) (.seq (.append 1 (.op .index (.cons (.tup (.cons (.const (.str [97])) (.cons (.const (.str [98])) (.cons (.const (.str [42])) (.cons (.const (.str [97, 91])) (.cons (.const (.str [91, 33, 97, 93])) .nil)))))) (.cons (.op .mod (.cons (.var 2) (.cons (.const (.int 5)) .nil))) .nil)))) (.seq (.assign 2 (.op .fdiv (.cons (.var 2) (.cons (.const (.int 5)) .nil)))) .skip))) (.seq (.seq (.fz 1) (.ret (.var 1))) .skip))))
noncomputable def fn_law_drawn : Fn := { np := 1, va := false, ns := 3, body := s_law_drawn }
noncomputable def s_law : S := (.seq (.assign 3 (.comp 22 (.rangeI (.cons (.const (.int 4)) .nil)) (.const (.bool true)) (.call 18 (.cons (.op .add (.cons (.op .abs (.cons (.op .sum (.cons (.op .slice3 (.cons (.var 0) (.cons (.var 22) (.cons (.const .none) (.cons (.const (.int 4)) .nil))))) .nil)) .nil)) (.cons (.op .index (.cons (.tup (.cons (.const (.int 7)) (.cons (.const (.int 186)) (.cons (.const (.int 2)) (.cons (.const (.int 0)) .nil))))) (.cons (.var 22) .nil))) .nil))) .nil)))) (.seq (.assign 3 (.op .add (.cons (.var 3) (.cons (.list (.cons (.list (.cons (.const (.str [97])) .nil)) (.cons (.list (.cons (.const (.str [97, 91])) .nil)) .nil))) .nil)))) (.seq (.assign 4 (.comp 23 (.seqI (.var 3)) (.const (.bool true)) (.call 33 (.cons (.var 23) .nil)))) (.seq (.forE 2 (.rangeI (.cons (.op .len (.cons (.var 3) .nil)) .nil)) (.seq (.ite (.op .ne (.cons (.call 6 (.cons (.op .index (.cons (.var 4) (.cons (.var 2) .nil))) .nil)) (.cons (.call 33 (.cons (.op .slice (.cons (.op .index (.cons (.var 3) (.cons (.var 2) .nil))) (.cons (.const .none) (.cons (.op .neg (.cons (.const (.int 1)) .nil)) .nil)))) .nil)) .nil))) (.seq (.ret (.const (.bool false))) .skip) .skip) .skip)) (.seq (.assign 5 (.call 1 (.cons (.const (.str [46, 46, 47, 42])) (.cons (.var 1) (.cons (.const (.str [46])) .nil))))) (.seq (.assignO 6 (.list .nil)) (.seq (.forE 7 (.seqI (.var 4)) (.seq (.append 6 (.call 1 (.cons (.op .add (.cons (.call 26 (.cons (.op .rstrip (.cons (.var 7) (.cons (.const (.str [47])) .nil))) .nil)) (.cons (.const (.str [47, 42])) .nil))) (.cons (.var 1) (.cons (.const (.str [46])) .nil))))) .skip)) (.seq (.forE 8 (.rangeI (.cons (.op .len (.cons (.var 4) .nil)) .nil)) (.seq (.forE 9 (.rangeI (.cons (.op .len (.cons (.var 4) .nil)) .nil)) (.seq (.assign 10 (.op .index (.cons (.var 3) (.cons (.var 8) .nil)))) (.seq (.assign 11 (.op .index (.cons (.var 3) (.cons (.var 9) .nil)))) (.seq (.assign 12 (.const (.int 0))) (.seq (.while (.and (.op .eq (.cons (.op .slice (.cons (.var 10) (.cons (.var 12) (.cons (.op .add (.cons (.var 12) (.cons (.const (.int 1)) .nil))) .nil)))) (.cons (.op .slice (.cons (.var 11) (.cons (.var 12) (.cons (.op .add (.cons (.var 12) (.cons (.const (.int 1)) .nil))) .nil)))) .nil))) (.op .lt (.cons (.var 12) (.cons (.op .len (.cons (.var 10) .nil)) .nil)))) (.seq (.assign 12 (.op .add (.cons (.var 12) (.cons (.const (.int 1)) .nil)))) .skip)) (.seq (.assign 13 (.op .eq (.cons (.var 12) (.cons (.op .len (.cons (.var 11) .nil)) .nil)))) (.seq (.assign 14 (.call 11 (.cons (.op .index (.cons (.var 4) (.cons (.var 8) .nil))) (.cons (.op .index (.cons (.var 4) (.cons (.var 9) .nil))) .nil)))) (.seq (.ite (.op .ne (.cons (.var 14) (.cons (.or (.op .join (.cons (.const (.str [47])) (.cons (.op .add (.cons (.op .mul (.cons (.list (.cons (.const (.str [46, 46])) .nil)) (.cons (.op .sub (.cons (.op .len (.cons (.var 11) .nil)) (.cons (.var 12) .nil))) .nil))) (.cons (.op .slice (.cons (.var 10) (.cons (.var 12) (.cons (.const .none) .nil)))) .nil))) .nil))) (.const (.str [46]))) .nil))) (.seq (.ret (.const (.bool false))) .skip) .skip) (.seq (.ite (.op .ne (.cons (.and (.op .ne (.cons (.var 14) (.cons (.const (.str [46, 46])) .nil))) (.not (.call 15 (.cons (.var 5) (.cons (.var 1) (.cons (.var 14) .nil)))))) (.cons (.var 13) .nil))) (.seq (.ret (.const (.bool false))) .skip) .skip) (.seq (.ite (.op .ne (.cons (.call 13 (.cons (.list (.cons (.op .index (.cons (.var 4) (.cons (.var 8) .nil))) (.cons (.op .index (.cons (.var 4) (.cons (.var 9) .nil))) .nil))) .nil)) (.cons (.call 33 (.cons (.op .slice (.cons (.var 10) (.cons (.const .none) (.cons (.var 12) .nil)))) .nil)) .nil))) (.seq (.ret (.const (.bool false))) .skip) .skip) (.seq (.ite (.op .ne (.cons (.or (.call 15 (.cons (.op .index (.cons (.var 6) (.cons (.var 9) .nil))) (.cons (.var 1) (.cons (.op .index (.cons (.var 4) (.cons (.var 8) .nil))) .nil)))) (.op .eq (.cons (.var 10) (.cons (.var 11) .nil)))) (.cons (.var 13) .nil))) (.seq (.ret (.const (.bool false))) .skip) .skip) .skip))))))))))) .skip)) (.seq (.forE 15 (.seqI (.tup (.cons (.const (.int 1)) (.cons (.const (.int 3)) (.cons (.op .len (.cons (.var 4) .nil)) .nil))))) (.seq (.assign 16 (.op .slice (.cons (.var 4) (.cons (.const .none) (.cons (.var 15) .nil))))) (.seq (.assign 17 (.call 13 (.cons (.var 16) .nil))) (.seq (.assign 18 (.op .index (.cons (.var 16) (.cons (.const (.int 0)) .nil)))) (.seq (.forE 19 (.rangeI (.cons (.const (.int 5)) .nil)) (.seq (.assign 20 (.call 1 (.cons (.op .add (.cons (.call 26 (.cons (.op .rstrip (.cons (.var 18) (.cons (.const (.str [47])) .nil))) .nil)) (.cons (.const (.str [47, 42])) .nil))) (.cons (.var 1) (.cons (.const (.str [46])) .nil))))) (.seq (.assign 21 (.op .eq (.cons (.comp 24 (.seqI (.var 16)) (.and (.op .ne (.cons (.var 24) (.cons (.var 18) .nil))) (.not (.call 15 (.cons (.var 20) (.cons (.var 1) (.cons (.var 24) .nil)))))) (.var 24)) (.cons (.list .nil) .nil)))) (.seq (.ite (.op .ne (.cons (.var 21) (.cons (.op .eq (.cons (.call 13 (.cons (.list (.cons (.var 17) (.cons (.var 18) .nil))) .nil)) (.cons (.var 18) .nil))) .nil))) (.seq (.ret (.const (.bool false))) .skip) .skip) (.seq (.assign 18 (.call 6 (.cons (.var 18) .nil))) .skip))))) .skip))))) (.seq (.ret (.const (.bool true))) .skip))))))))))
noncomputable def fn_law : Fn := { np := 1, va := false, ns := 25, body := s_law }
end Mine
end
section W08x
open PySem PySem.Calls PyProof.Rows PySem.Builtin.Str
set_option maxHeartbeats 4000000
namespace Mine
open PySem.Str renaming ofString → os
noncomputable abbrev NN (x : String) : Prop := (os x == os "__classdict__") = false ∧ (os x == os "__debug__") = false
noncomputable abbrev VL (s : Sc) (x : String) (i : Nat) : Prop := s.vars.lookup (os x) = some i
noncomputable abbrev KL (s : Sc) (x : String) (k : NameKind) : Prop := s.kinds.lookup (os x) = some k
theorem nLoc {s : Sc} {x : String} (h : KL s x .local) : s.kinds.lookup (os x) ≠ some .free := nfree h
theorem sVar {cx : XCx} {s : Sc} {x : String} {i : Nat} {pos : Pos} (h : VL s x i) (n : NN x) : Sound cx s (.Name (os x) pos) (.var i) := ziZ h n.1 n.2
theorem zdR : NN "QUESTION_MARK" := ⟨rfl, rfl⟩
theorem zjA : NN "STAR" := ⟨rfl, rfl⟩
theorem nn_a : NN "a" := ⟨rfl, rfl⟩
theorem zkZ : NN "above" := ⟨rfl, rfl⟩
theorem nn_add : NN "add" := ⟨rfl, rfl⟩
theorem nn_at : NN "at" := ⟨rfl, rfl⟩
theorem nn_b : NN "b" := ⟨rfl, rfl⟩
theorem zgn : NN "barred" := ⟨rfl, rfl⟩
theorem zhI : NN "below" := ⟨rfl, rfl⟩
theorem zco : NN "body" := ⟨rfl, rfl⟩
theorem nn_c : NN "c" := ⟨rfl, rfl⟩
theorem zjz : NN "common" := ⟨rfl, rfl⟩
theorem zfG : NN "comp" := ⟨rfl, rfl⟩
theorem zhH : NN "comps" := ⟨rfl, rfl⟩
theorem zen : NN "curdir" := ⟨rfl, rfl⟩
theorem zjy : NN "dot" := ⟨rfl, rfl⟩
theorem zgm : NN "dotdot" := ⟨rfl, rfl⟩
theorem zd0 : NN "empty" := ⟨rfl, rfl⟩
theorem zcn : NN "folder" := ⟨rfl, rfl⟩
theorem zkY : NN "found" := ⟨rfl, rfl⟩
theorem zem : NN "head" := ⟨rfl, rfl⟩
theorem nn_high : NN "high" := ⟨rfl, rfl⟩
theorem nn_i : NN "i" := ⟨rfl, rfl⟩
theorem zbT : NN "initial_slashes" := ⟨rfl, rfl⟩
theorem zkX : NN "isabs" := ⟨rfl, rfl⟩
theorem nn_j : NN "j" := ⟨rfl, rfl⟩
theorem nn_k : NN "k" := ⟨rfl, rfl⟩
theorem nn_kind : NN "kind" := ⟨rfl, rfl⟩
theorem nn_last : NN "last" := ⟨rfl, rfl⟩
theorem zhd : NN "left" := ⟨rfl, rfl⟩
theorem zlu : NN "low" := ⟨rfl, rfl⟩
theorem nn_m : NN "m" := ⟨rfl, rfl⟩
theorem nn_n : NN "n" := ⟨rfl, rfl⟩
theorem zfF : NN "name" := ⟨rfl, rfl⟩
theorem zhG : NN "names" := ⟨rfl, rfl⟩
theorem nn_new_comps : NN "new_comps" := ⟨rfl, rfl⟩
theorem zjx : NN "number" := ⟨rfl, rfl⟩
theorem zgl : NN "one" := ⟨rfl, rfl⟩
theorem zdZ : NN "other" := ⟨rfl, rfl⟩
theorem nn_out : NN "out" := ⟨rfl, rfl⟩
theorem nn_p : NN "p" := ⟨rfl, rfl⟩
theorem zjw : NN "pardir" := ⟨rfl, rfl⟩
theorem zcm : NN "part" := ⟨rfl, rfl⟩
theorem zhF : NN "parts" := ⟨rfl, rfl⟩
theorem zfa : NN "pat" := ⟨rfl, rfl⟩
theorem nn_path : NN "path" := ⟨rfl, rfl⟩
theorem zdK : NN "path_list" := ⟨rfl, rfl⟩
theorem zdJ : NN "path_tail" := ⟨rfl, rfl⟩
theorem zaQ : NN "paths" := ⟨rfl, rfl⟩
theorem ze9 : NN "pattern" := ⟨rfl, rfl⟩
theorem zb2 : NN "places" := ⟨rfl, rfl⟩
theorem zjv : NN "prefix" := ⟨rfl, rfl⟩
theorem zel : NN "rel_list" := ⟨rfl, rfl⟩
theorem nn_res : NN "res" := ⟨rfl, rfl⟩
theorem nn_s : NN "s" := ⟨rfl, rfl⟩
theorem nn_s1 : NN "s1" := ⟨rfl, rfl⟩
theorem nn_s2 : NN "s2" := ⟨rfl, rfl⟩
theorem zbV : NN "same" := ⟨rfl, rfl⟩
theorem zju : NN "script" := ⟨rfl, rfl⟩
theorem za7 : NN "sep" := ⟨rfl, rfl⟩
theorem zdu : NN "sign" := ⟨rfl, rfl⟩
theorem zhc : NN "some" := ⟨rfl, rfl⟩
theorem zbU : NN "split_paths" := ⟨rfl, rfl⟩
theorem zcO : NN "star" := ⟨rfl, rfl⟩
theorem zfE : NN "start" := ⟨rfl, rfl⟩
theorem zc7 : NN "start_list" := ⟨rfl, rfl⟩
theorem zc6 : NN "start_tail" := ⟨rfl, rfl⟩
theorem zbv : NN "stuff" := ⟨rfl, rfl⟩
theorem zkW : NN "takes" := ⟨rfl, rfl⟩
theorem nn_text : NN "text" := ⟨rfl, rfl⟩
theorem nn_under : NN "under" := ⟨rfl, rfl⟩
theorem zjt : NN "way" := ⟨rfl, rfl⟩
theorem zkV : NN "whole" := ⟨rfl, rfl⟩
noncomputable abbrev fs08 : List (Str × Nat) := [(os "escape", 0), (os "_translate", 1), (os "fspath", 2), (os "_get_sep", 3), (os "join", 4), (os "dirname", 6), (os "splitroot", 7), (os "normpath", 9), (os "abspath", 10), (os "relpath", 11), (os "commonprefix", 12), (os "commonpath", 13), (os "_law_one", 14), (os "_law_takes", 15), (os "_law_drawn", 18), (os "_law_quoted", 26), (os "_law_told", 33), (os "law", 35)]
noncomputable abbrev bs08 : List Str := [os "str", os "bytes", os "list", os "tuple", os "len", os "abs", os "sum", os "isinstance", os "issubclass", os "type", os "range", os "min", os "max", os "sorted", os "map", os "enumerate"]
noncomputable abbrev lamPos08 : Pos := ⟨267, 39, 267, 76⟩
noncomputable abbrev qs08 : List (Pos × Str) := [(lamPos08, (PySem.Str.ofString "_translate.<locals>.") ++ "<lambda>")]
variable {cx : XCx} (N : GN cx fs08 bs08)
include N
theorem zgx : cx.mg (os "_get_sep") = some (.ref (cx.fa 3)) := N.f _ _ (.tail _ (.tail _ (.tail _ (.head _))))
theorem zhl : cx.mg (os "_law_drawn") = some (.ref (cx.fa 18)) := N.f _ _ (.tail _ (.tail _ (.tail _ (.tail _ (.tail _ (.tail _ (.tail _ (.tail _ (.tail _ (.tail _ (.tail _ (.tail _ (.tail _ (.tail _ (.head _)))))))))))))))
theorem zjZ : cx.mg (os "_law_one") = some (.ref (cx.fa 14)) := N.f _ _ (.tail _ (.tail _ (.tail _ (.tail _ (.tail _ (.tail _ (.tail _ (.tail _ (.tail _ (.tail _ (.tail _ (.tail _ (.head _)))))))))))))
theorem zdN : cx.mg (os "_law_quoted") = some (.ref (cx.fa 26)) := N.f _ _ (.tail _ (.tail _ (.tail _ (.tail _ (.tail _ (.tail _ (.tail _ (.tail _ (.tail _ (.tail _ (.tail _ (.tail _ (.tail _ (.tail _ (.tail _ (.head _))))))))))))))))
theorem zcS : cx.mg (os "_law_takes") = some (.ref (cx.fa 15)) := N.f _ _ (.tail _ (.tail _ (.tail _ (.tail _ (.tail _ (.tail _ (.tail _ (.tail _ (.tail _ (.tail _ (.tail _ (.tail _ (.tail _ (.head _))))))))))))))
theorem zdx : cx.mg (os "_law_told") = some (.ref (cx.fa 33)) := N.f _ _ (.tail _ (.tail _ (.tail _ (.tail _ (.tail _ (.tail _ (.tail _ (.tail _ (.tail _ (.tail _ (.tail _ (.tail _ (.tail _ (.tail _ (.tail _ (.tail _ (.head _)))))))))))))))))
theorem zcR : cx.mg (os "_translate") = some (.ref (cx.fa 1)) := N.f _ _ (.tail _ (.head _))
theorem zgz : cx.mg (os "abspath") = some (.ref (cx.fa 10)) := N.f _ _ (.tail _ (.tail _ (.tail _ (.tail _ (.tail _ (.tail _ (.tail _ (.tail _ (.head _)))))))))
theorem zcq : cx.mg (os "commonpath") = some (.ref (cx.fa 13)) := N.f _ _ (.tail _ (.tail _ (.tail _ (.tail _ (.tail _ (.tail _ (.tail _ (.tail _ (.tail _ (.tail _ (.tail _ (.head _))))))))))))
theorem zeU : cx.mg (os "commonprefix") = some (.ref (cx.fa 12)) := N.f _ _ (.tail _ (.tail _ (.tail _ (.tail _ (.tail _ (.tail _ (.tail _ (.tail _ (.tail _ (.tail _ (.head _)))))))))))
theorem zgy : cx.mg (os "dirname") = some (.ref (cx.fa 6)) := N.f _ _ (.tail _ (.tail _ (.tail _ (.tail _ (.tail _ (.head _))))))
theorem zla : cx.mg (os "escape") = some (.ref (cx.fa 0)) := N.f _ _ (.head _)
theorem zbF : cx.mg (os "fspath") = some (.ref (cx.fa 2)) := N.f _ _ (.tail _ (.tail _ (.head _)))
theorem ziC : cx.mg (os "normpath") = some (.ref (cx.fa 9)) := N.f _ _ (.tail _ (.tail _ (.tail _ (.tail _ (.tail _ (.tail _ (.tail _ (.head _))))))))
theorem zjY : cx.mg (os "relpath") = some (.ref (cx.fa 11)) := N.f _ _ (.tail _ (.tail _ (.tail _ (.tail _ (.tail _ (.tail _ (.tail _ (.tail _ (.tail _ (.head _))))))))))
theorem zhk : cx.mg (os "splitroot") = some (.ref (cx.fa 7)) := N.f _ _ (.tail _ (.tail _ (.tail _ (.tail _ (.tail _ (.tail _ (.head _)))))))
theorem b_abs : cx.mg (os "abs") = none := N.b _ (.tail _ (.tail _ (.tail _ (.tail _ (.tail _ (.head _))))))
theorem zcV : cx.mg (os "bytes") = none := N.b _ (.tail _ (.head _))
theorem zeA : cx.mg (os "enumerate") = none := N.b _ (.tail _ (.tail _ (.tail _ (.tail _ (.tail _ (.tail _ (.tail _ (.tail _ (.tail _ (.tail _ (.tail _ (.tail _ (.tail _ (.tail _ (.tail _ (.head _))))))))))))))))
theorem zaT : cx.mg (os "isinstance") = none := N.b _ (.tail _ (.tail _ (.tail _ (.tail _ (.tail _ (.tail _ (.tail _ (.head _))))))))
theorem zgN : cx.mg (os "issubclass") = none := N.b _ (.tail _ (.tail _ (.tail _ (.tail _ (.tail _ (.tail _ (.tail _ (.tail _ (.head _)))))))))
theorem b_len : cx.mg (os "len") = none := N.b _ (.tail _ (.tail _ (.tail _ (.tail _ (.head _)))))
theorem zlD : cx.mg (os "list") = none := N.b _ (.tail _ (.tail _ (.head _)))
theorem b_map : cx.mg (os "map") = none := N.b _ (.tail _ (.tail _ (.tail _ (.tail _ (.tail _ (.tail _ (.tail _ (.tail _ (.tail _ (.tail _ (.tail _ (.tail _ (.tail _ (.tail _ (.head _)))))))))))))))
theorem b_max : cx.mg (os "max") = none := N.b _ (.tail _ (.tail _ (.tail _ (.tail _ (.tail _ (.tail _ (.tail _ (.tail _ (.tail _ (.tail _ (.tail _ (.tail _ (.head _)))))))))))))
theorem b_min : cx.mg (os "min") = none := N.b _ (.tail _ (.tail _ (.tail _ (.tail _ (.tail _ (.tail _ (.tail _ (.tail _ (.tail _ (.tail _ (.tail _ (.head _))))))))))))
theorem zdA : cx.mg (os "range") = none := N.b _ (.tail _ (.tail _ (.tail _ (.tail _ (.tail _ (.tail _ (.tail _ (.tail _ (.tail _ (.tail _ (.head _)))))))))))
theorem b_str : cx.mg (os "str") = none := N.b _ (.head _)
theorem b_sum : cx.mg (os "sum") = none := N.b _ (.tail _ (.tail _ (.tail _ (.tail _ (.tail _ (.tail _ (.head _)))))))
theorem zkl : cx.mg (os "tuple") = none := N.b _ (.tail _ (.tail _ (.tail _ (.head _))))
theorem b_type : cx.mg (os "type") = none := N.b _ (.tail _ (.tail _ (.tail _ (.tail _ (.tail _ (.tail _ (.tail _ (.tail _ (.tail _ (.head _))))))))))
omit N
noncomputable def sc_escape : Sc := { kinds := [(os "pattern", .local), (os "isinstance", .globalImplicit), (os "str", .globalImplicit), (os "_special_chars_map", .globalImplicit)], vars := [(os "pattern", 0)] }
theorem zig {cx : XCx} (N : GN cx fs08 bs08) (TG : TabG cx) (sp : cx.mg (PySem.Str.ofString "_special_chars_map") = some (.ref TG.d)) : SoundSs cx sc_escape (nthBody PySem.Challenge.pw_dn0069_08 26) s_escape := by
  unfold s_escape
  exact (zaa (zah (zaj rfl (zaT N) (by decide) rfl (.builtin _) rfl (.cons (sVar rfl ze9) rfl (.cons (zaB rfl (b_str N) (by decide) rfl rfl) rfl .nil)) zbz) (zaa (zam (zeb TG rfl rfl (sVar rfl ze9) rfl sp rfl))
  zac) zaw)
  zac)
noncomputable def sc_translate8 (c : Addr) : Sc := { kinds := [(os "pat", .local), (os "STAR", .local), (os "QUESTION_MARK", .local), (os "res", .local), (os "add", .local), (os "i", .local), (os "n", .local), (os "c", .local), (os "j", .local), (os "stuff", .local), (os "chunks", .local), (os "k", .local), (os "chunk", .local), (os "len", .globalImplicit), (os "range", .globalImplicit), (os "_twin_re_1", .globalImplicit), (os "escape", .globalImplicit)], vars := [(os "pat", 0), (os "STAR", 1), (os "QUESTION_MARK", 2), (os "res", 3), (os "add", 4), (os "i", 5), (os "n", 6), (os "c", 7), (os "j", 8), (os "stuff", 9), (os "chunks", 10), (os "k", 11), (os "chunk", 12)], code := some (c, PySem.Str.ofString "_translate.<locals>.") }
theorem zeN {cx : XCx} (N : GN cx fs08 bs08) (G : LamG cx) (PG : PatG cx) (tw : cx.mg (PySem.Str.ofString "_twin_re_1") = some (.ref PG.P)) (hq : G.qs = qs08) : SoundSs cx (sc_translate8 G.c) (nthBody PySem.Challenge.pw_dn0069_08 28) s_translate8 := by
  unfold s_translate8
  exact (zaa (zbb rfl (nLoc rfl) (zav .nil) (fun _ _ _ => rfl))
  (zaa (zgh rfl (nLoc rfl) rfl nn_res.1 nn_res.2)
  (zaa (zgf rfl rfl (nLoc rfl) (nLoc rfl) (by decide) (zba (.cons (zab rfl) rfl (.cons (zaj rfl (b_len N) (by decide) rfl (.builtin _) rfl (.cons (sVar rfl zfa) rfl .nil) zby) rfl .nil))) (fun _ => rfl) (zkv rfl rfl rfl rfl rfl rfl rfl rfl))
  (zaa (zbw (zae (sVar rfl nn_i) (sVar rfl nn_n) op_lt rfl) (zaa (zad rfl (nLoc rfl) (zai (sVar rfl zfa) (sVar rfl nn_i)) (fun _ _ _ => rfl))
  (zaa (zad rfl (nLoc rfl) (zal (sVar rfl nn_i) (zab rfl) zaH) (fun _ _ _ => rfl))
  (zaa (zah (zae (sVar rfl nn_c) (zab rfl) op_eq rfl) (zaa (zah (zaq (.or (zaF (sVar rfl nn_res)) (.one (zae (zai (sVar rfl nn_res) (zc1 (zab rfl) zgk (fun h => nomatch h))) (sVar rfl zjA) zkK rfl)))) (zaa (zaC rfl (show VL _ "res" 3 from rfl) nn_add.1 nn_add.2 (sVar rfl zjA) rfl)
  zac) zac)
  zac) (zaa (zah (zae (sVar rfl nn_c) (zab rfl) op_eq rfl) (zaa (zaC rfl (show VL _ "res" 3 from rfl) nn_add.1 nn_add.2 (sVar rfl zdR) rfl)
  zac) (zaa (zah (zae (sVar rfl nn_c) (zab rfl) op_eq rfl) (zaa (zad rfl (nLoc rfl) (sVar rfl nn_i) (fun _ _ _ => rfl))
  (zaa (zah (zaq (.and (zae (sVar rfl nn_j) (sVar rfl nn_n) op_lt rfl) (.one (zae (zai (sVar rfl zfa) (sVar rfl nn_j)) (zab rfl) op_eq rfl)))) (zaa (zad rfl (nLoc rfl) (zal (sVar rfl nn_j) (zab rfl) zaH) (fun _ _ _ => rfl))
  zac) zac)
  (zaa (zah (zaq (.and (zae (sVar rfl nn_j) (sVar rfl nn_n) op_lt rfl) (.one (zae (zai (sVar rfl zfa) (sVar rfl nn_j)) (zab rfl) op_eq rfl)))) (zaa (zad rfl (nLoc rfl) (zal (sVar rfl nn_j) (zab rfl) zaH) (fun _ _ _ => rfl))
  zac) zac)
  (zaa (zbw (zaq (.and (zae (sVar rfl nn_j) (sVar rfl nn_n) op_lt rfl) (.one (zae (zai (sVar rfl zfa) (sVar rfl nn_j)) (zab rfl) op_ne rfl)))) (zaa (zad rfl (nLoc rfl) (zal (sVar rfl nn_j) (zab rfl) zaH) (fun _ _ _ => rfl))
  zac))
  (zaa (zah (zae (sVar rfl nn_j) (sVar rfl nn_n) op_ge rfl) (zaa (zaC rfl (show VL _ "res" 3 from rfl) nn_add.1 nn_add.2 (zab rfl) rfl)
  zac) (zaa (zad rfl (nLoc rfl) (zap (sVar rfl zfa) (.yes (sVar rfl nn_i)) (.yes (sVar rfl nn_j))) (fun _ _ _ => rfl))
  (zaa (zah (zae (zab rfl) (sVar rfl zbv) zkJ rfl) (zaa (zad rfl (nLoc rfl) (zjG rfl rfl (by decide) (sVar rfl zbv) (.cons (zab rfl) rfl (.cons (zab rfl) rfl .nil))) (fun _ _ _ => rfl))
  zac) zaw)
  (zaa (zad rfl (nLoc rfl) (zge G PG rfl tw rfl rfl (by rw [hq]; exact .head _) rfl rfl rfl (sVar rfl zbv)) (fun _ _ _ => rfl))
  (zaa (zad rfl (nLoc rfl) (zal (sVar rfl nn_j) (zab rfl) zaH) (fun _ _ _ => rfl))
  (zaa (zah (zaF (sVar rfl zbv)) (zaa (zaC rfl (show VL _ "res" 3 from rfl) nn_add.1 nn_add.2 (zab (by kernel_rfl)) rfl)
  zac) (zaa (zah (zae (sVar rfl zbv) (zab rfl) op_eq rfl) (zaa (zaC rfl (show VL _ "res" 3 from rfl) nn_add.1 nn_add.2 (zab rfl) rfl)
  zac) (zaa (zah (zae (zai (sVar rfl zbv) (zab rfl)) (zab rfl) op_eq rfl) (zaa (zad rfl (nLoc rfl) (zal (zab rfl) (zap (sVar rfl zbv) (.yes (zab rfl)) .no) zaH) (fun _ _ _ => rfl))
  zac) (zaa (zah (zae (zai (sVar rfl zbv) (zab rfl)) (zba (.cons (zab rfl) rfl (.cons (zab rfl) rfl .nil))) op_in rfl) (zaa (zad rfl (nLoc rfl) (zal (zab rfl) (sVar rfl zbv) zaH) (fun _ _ _ => rfl))
  zac) zac)
  zac))
  (zaa (zaC rfl (show VL _ "res" 3 from rfl) nn_add.1 nn_add.2 (zi0 (sVar rfl zbv) rfl rfl) rfl)
  zac)))
  zac))
  zac))))))
  zac))))) (zaa (zaC rfl (show VL _ "res" 3 from rfl) nn_add.1 nn_add.2 (zak rfl (zla N) rfl (.cons (sVar rfl nn_c) rfl .nil)) rfl)
  zac))
  zac))
  zac))
  zac))))
  (zaa (zft (zae (sVar rfl nn_i) (sVar rfl nn_n) op_eq rfl))
  (zaa (zed ⟨os "res", rfl⟩ (zam (sVar rfl nn_res)))
  zac))))))
noncomputable def sc_fspath : Sc := { kinds := [(os "path", .local), (os "kind", .local), (os "hook", .local), (os "given", .local), (os "type", .globalImplicit), (os "issubclass", .globalImplicit), (os "str", .globalImplicit), (os "bytes", .globalImplicit), (os "_abc_plain_meta", .globalImplicit), (os "getattr", .globalImplicit), (os "TypeError", .globalImplicit), (os "_plain_name", .globalImplicit), (os "_wall", .globalImplicit), (os "len", .globalImplicit)], vars := [(os "path", 0), (os "kind", 1), (os "hook", 2), (os "given", 3)] }
theorem zif {cx : XCx} (N : GN cx fs08 bs08) : SoundSs cx sc_fspath (nthBody PySem.Challenge.pw_dn0069_08 10) s_fspath := by
  unfold s_fspath
  exact (zaa (zad rfl (nLoc rfl) (zaj rfl (b_type N) (by decide) rfl (.type _) rfl (.cons (sVar rfl nn_path) rfl .nil) op_tyOf) (fun _ _ _ => rfl))
  (zaa (zah (zaj rfl (zgN N) (by decide) rfl (.builtin _) rfl (.cons (sVar rfl nn_kind) rfl (.cons (zba (.cons (zaB rfl (b_str N) (by decide) rfl rfl) rfl (.cons (zaB rfl (zcV N) (by decide) rfl rfl) rfl .nil))) rfl .nil)) zkL) (zaa (zam (sVar rfl nn_path))
  zac) zac)
  zaw))
noncomputable def sc_get_sep : Sc := { kinds := [(os "path", .local), (os "isinstance", .globalImplicit), (os "bytes", .globalImplicit)], vars := [(os "path", 0)] }
theorem zgZ {cx : XCx} (N : GN cx fs08 bs08) : SoundSs cx sc_get_sep (nthBody PySem.Challenge.pw_dn0069_08 15) s_get_sep := by
  unfold s_get_sep
  exact (zaa (zah (zaj rfl (zaT N) (by decide) rfl (.builtin _) rfl (.cons (sVar rfl nn_path) rfl (.cons (zaB rfl (zcV N) (by decide) rfl rfl) rfl .nil)) zbz) zaw (zaa (zam (zab rfl))
  zac))
  zac)
noncomputable def sc_join : Sc := { kinds := [(os "a", .local), (os "p", .local), (os "sep", .local), (os "path", .local), (os "b", .local), (os "fspath", .globalImplicit), (os "_get_sep", .globalImplicit), (os "TypeError", .globalImplicit), (os "AttributeError", .globalImplicit), (os "BytesWarning", .globalImplicit), (os "_check_arg_types", .globalImplicit)], vars := [(os "a", 0), (os "p", 1), (os "sep", 2), (os "path", 3), (os "b", 4)] }
theorem zky {cx : XCx} (N : GN cx fs08 bs08) : SoundSs cx sc_join (nthBody PySem.Challenge.pw_dn0069_08 16) s_join := by
  unfold s_join
  exact (zaa (zad rfl (nLoc rfl) (zak rfl (zbF N) rfl (.cons (sVar rfl nn_a) rfl .nil)) (fun _ _ _ => rfl))
  (zaa (zad rfl (nLoc rfl) (zak rfl (zgx N) rfl (.cons (sVar rfl nn_a) rfl .nil)) (fun _ _ _ => rfl))
  (zaa (zad rfl (nLoc rfl) (sVar rfl nn_a) (fun _ _ _ => rfl))
  (zaa (zcx (zaa (za2 rfl (nLoc rfl) (zaD (sVar rfl nn_p)) (zaa (zad rfl (nLoc rfl) (zak rfl (zbF N) rfl (.cons (sVar rfl nn_b) rfl .nil)) (fun _ _ _ => rfl))
  (zaa (zah (zaq (.or (zcp rfl rfl (by decide) (sVar rfl nn_b) (.cons (sVar rfl za7) rfl .nil)) (.one (zaF (sVar rfl nn_path))))) (zaa (zad rfl (nLoc rfl) (sVar rfl nn_b) (fun _ _ _ => rfl))
  zac) (zaa (zah (zir rfl rfl (by decide) (sVar rfl nn_path) (.cons (sVar rfl za7) rfl .nil)) (zaa (ze3 rfl (nLoc rfl) nn_path.1 (sVar rfl nn_b))
  zac) (zaa (ze3 rfl (nLoc rfl) nn_path.1 (zal (sVar rfl za7) (sVar rfl nn_b) zaH))
  zac))
  zac))
  zac)) (fun _ _ => rfl))
  zac))
  (zaa (zam (sVar rfl nn_path))
  zac)))))
noncomputable def sc_dirname : Sc := { kinds := [(os "p", .local), (os "sep", .local), (os "i", .local), (os "head", .local), (os "fspath", .globalImplicit), (os "_get_sep", .globalImplicit), (os "len", .globalImplicit)], vars := [(os "p", 0), (os "sep", 1), (os "i", 2), (os "head", 3)] }
theorem zg0 {cx : XCx} (N : GN cx fs08 bs08) : SoundSs cx sc_dirname (nthBody PySem.Challenge.pw_dn0069_08 18) s_dirname := by
  unfold s_dirname
  exact (zaa (zad rfl (nLoc rfl) (zak rfl (zbF N) rfl (.cons (sVar rfl nn_p) rfl .nil)) (fun _ _ _ => rfl))
  (zaa (zad rfl (nLoc rfl) (zak rfl (zgx N) rfl (.cons (sVar rfl nn_p) rfl .nil)) (fun _ _ _ => rfl))
  (zaa (zad rfl (nLoc rfl) (zal (m_rfind rfl rfl (by decide) (sVar rfl nn_p) (.cons (sVar rfl za7) rfl .nil)) (zab rfl) zaH) (fun _ _ _ => rfl))
  (zaa (zad rfl (nLoc rfl) (zap (sVar rfl nn_p) .no (.yes (sVar rfl nn_i))) (fun _ _ _ => rfl))
  (zaa (zah (zaq (.and (sVar rfl zem) (.one (zae (sVar rfl zem) (zal (sVar rfl za7) (zaj rfl (b_len N) (by decide) rfl (.builtin _) rfl (.cons (sVar rfl zem) rfl .nil) zby) zjh) op_ne rfl)))) (zaa (zad rfl (nLoc rfl) (zfK rfl rfl (by decide) (sVar rfl zem) (.cons (sVar rfl za7) rfl .nil)) (fun _ _ _ => rfl))
  zac) zac)
  (zaa (zam (sVar rfl zem))
  zac))))))
noncomputable def sc_splitroot : Sc := { kinds := [(os "p", .local), (os "sep", .local), (os "empty", .local), (os "fspath", .globalImplicit), (os "isinstance", .globalImplicit), (os "bytes", .globalImplicit)], vars := [(os "p", 0), (os "sep", 1), (os "empty", 2)] }
theorem zfu {cx : XCx} (N : GN cx fs08 bs08) : SoundSs cx sc_splitroot (nthBody PySem.Challenge.pw_dn0069_08 17) s_splitroot := by
  unfold s_splitroot
  exact (zaa (zad rfl (nLoc rfl) (zak rfl (zbF N) rfl (.cons (sVar rfl nn_p) rfl .nil)) (fun _ _ _ => rfl))
  (zaa (zah (zaj rfl (zaT N) (by decide) rfl (.builtin _) rfl (.cons (sVar rfl nn_p) rfl (.cons (zaB rfl (zcV N) (by decide) rfl rfl) rfl .nil)) zbz) zaw (zaa (zad rfl (nLoc rfl) (zab rfl) (fun _ _ _ => rfl))
  (zaa (zad rfl (nLoc rfl) (zab rfl) (fun _ _ _ => rfl))
  zac)))
  (zaa (zah (zae (zap (sVar rfl nn_p) .no (.yes (zab rfl))) (sVar rfl za7) op_ne rfl) (zaa (zam (zba (.cons (sVar rfl zd0) rfl (.cons (sVar rfl zd0) rfl (.cons (sVar rfl nn_p) rfl .nil)))))
  zac) (zaa (zah (zaq (.or (zae (zap (sVar rfl nn_p) (.yes (zab rfl)) (.yes (zab rfl))) (sVar rfl za7) op_ne rfl) (.one (zae (zap (sVar rfl nn_p) (.yes (zab rfl)) (.yes (zab rfl))) (sVar rfl za7) op_eq rfl)))) (zaa (zam (zba (.cons (sVar rfl zd0) rfl (.cons (sVar rfl za7) rfl (.cons (zap (sVar rfl nn_p) (.yes (zab rfl)) .no) rfl .nil)))))
  zac) (zaa (zam (zba (.cons (sVar rfl zd0) rfl (.cons (zap (sVar rfl nn_p) .no (.yes (zab rfl))) rfl (.cons (zap (sVar rfl nn_p) (.yes (zab rfl)) .no) rfl .nil)))))
  zac))
  zac))
  zac)))
noncomputable def sc_normpath : Sc := { kinds := [(os "path", .local), (os "sep", .local), (os "dot", .local), (os "dotdot", .local), (os "_", .local), (os "initial_slashes", .local), (os "comps", .local), (os "new_comps", .local), (os "comp", .local), (os "fspath", .globalImplicit), (os "isinstance", .globalImplicit), (os "bytes", .globalImplicit), (os "splitroot", .globalImplicit)], vars := [(os "path", 0), (os "sep", 1), (os "dot", 2), (os "dotdot", 3), (os "_", 4), (os "initial_slashes", 5), (os "comps", 6), (os "new_comps", 7), (os "comp", 8)] }
theorem zgi {cx : XCx} (N : GN cx fs08 bs08) : SoundSs cx sc_normpath (nthBody PySem.Challenge.pw_dn0069_08 19) s_normpath := by
  unfold s_normpath
  exact (zaa (zad rfl (nLoc rfl) (zak rfl (zbF N) rfl (.cons (sVar rfl nn_path) rfl .nil)) (fun _ _ _ => rfl))
  (zaa (zah (zaj rfl (zaT N) (by decide) rfl (.builtin _) rfl (.cons (sVar rfl nn_path) rfl (.cons (zaB rfl (zcV N) (by decide) rfl rfl) rfl .nil)) zbz) zaw (zaa (zad rfl (nLoc rfl) (zab rfl) (fun _ _ _ => rfl))
  (zaa (zad rfl (nLoc rfl) (zab rfl) (fun _ _ _ => rfl))
  (zaa (zad rfl (nLoc rfl) (zab rfl) (fun _ _ _ => rfl))
  zac))))
  (zaa (zah (zaF (sVar rfl nn_path)) (zaa (zam (sVar rfl zjy))
  zac) zac)
  (zaa (zeM rfl rfl rfl (nLoc rfl) (nLoc rfl) (nLoc rfl) (zak rfl (zhk N) rfl (.cons (sVar rfl nn_path) rfl .nil)) (fun _ => rfl) (fun _ => rfl))
  (zaa (zad rfl (nLoc rfl) (zfJ rfl rfl (by decide) (sVar rfl nn_path) (.cons (sVar rfl za7) rfl .nil)) (fun _ _ _ => rfl))
  (zaa (zbb rfl (nLoc rfl) (zav .nil) (fun _ _ _ => rfl))
  (zaa (za2 rfl (nLoc rfl) (zaD (sVar rfl zhH)) (zaa (zah (zaq (.or (zaF (sVar rfl zfG)) (.one (zae (sVar rfl zfG) (sVar rfl zjy) op_eq rfl)))) (zaa zee
  zac) zac)
  (zaa (zah (zaq (.or (zae (sVar rfl zfG) (sVar rfl zgm) op_ne rfl) (.or (zaq (.and (zaF (sVar rfl zbT)) (.one (zaF (sVar rfl nn_new_comps))))) (.one (zaq (.and (sVar rfl nn_new_comps) (.one (zae (zai (sVar rfl nn_new_comps) (zc1 (zab rfl) zgk (fun h => nomatch h))) (sVar rfl zgm) op_eq rfl)))))))) (zaa (zb7 rfl nn_new_comps.1 nn_new_comps.2 rfl (sVar rfl zfG) rfl)
  zac) (zaa (zah (sVar rfl nn_new_comps) (zaa (zie rfl nn_new_comps.1 nn_new_comps.2 rfl)
  zac) zac)
  zac))
  zac)) (fun _ _ => rfl))
  (zaa (zed ⟨os "new_comps", rfl⟩ (zad rfl (nLoc rfl) (sVar rfl nn_new_comps) (fun _ _ _ => rfl)))
  (zaa (zad rfl (nLoc rfl) (zal (sVar rfl zbT) (zfb rfl rfl (by decide) (sVar rfl za7) (.cons (sVar rfl zhH) rfl .nil)) zaH) (fun _ _ _ => rfl))
  (zaa (zam (zaq (.or (sVar rfl nn_path) (.one (sVar rfl zjy)))))
  zac))))))))))
noncomputable def sc_abspath : Sc := { kinds := [(os "path", .local), (os "fspath", .globalImplicit), (os "isinstance", .globalImplicit), (os "bytes", .globalImplicit), (os "join", .globalImplicit), (os "_wall", .globalImplicit), (os "normpath", .globalImplicit)], vars := [(os "path", 0)] }
theorem zg1 {cx : XCx} (N : GN cx fs08 bs08) : SoundSs cx sc_abspath (nthBody PySem.Challenge.pw_dn0069_08 20) s_abspath := by
  unfold s_abspath
  exact (zaa (zad rfl (nLoc rfl) (zak rfl (zbF N) rfl (.cons (sVar rfl nn_path) rfl .nil)) (fun _ _ _ => rfl))
  (zaa (zah (zaj rfl (zaT N) (by decide) rfl (.builtin _) rfl (.cons (sVar rfl nn_path) rfl (.cons (zaB rfl (zcV N) (by decide) rfl rfl) rfl .nil)) zbz) zaw (zaa (zah (zaF (zcp rfl rfl (by decide) (sVar rfl nn_path) (.cons (zab rfl) rfl .nil))) zaw zac)
  zac))
  (zaa (zam (zak rfl (ziC N) rfl (.cons (sVar rfl nn_path) rfl .nil)))
  zac)))
noncomputable def sc_relpath : Sc := { kinds := [(os "path", .local), (os "start", .local), (os "curdir", .local), (os "sep", .local), (os "pardir", .local), (os "start_tail", .local), (os "path_tail", .local), (os "start_list", .local), (os "path_list", .local), (os "i", .local), (os "rel_list", .local), (os "fspath", .globalImplicit), (os "ValueError", .globalImplicit), (os "isinstance", .globalImplicit), (os "bytes", .globalImplicit), (os "abspath", .globalImplicit), (os "len", .globalImplicit), (os "commonprefix", .globalImplicit), (os "TypeError", .globalImplicit), (os "AttributeError", .globalImplicit), (os "BytesWarning", .globalImplicit), (os "DeprecationWarning", .globalImplicit), (os "_check_arg_types", .globalImplicit)], vars := [(os "path", 0), (os "start", 1), (os "curdir", 2), (os "sep", 3), (os "pardir", 4), (os "start_tail", 5), (os "path_tail", 6), (os "start_list", 7), (os "path_list", 8), (os "i", 9), (os "rel_list", 10)] }
theorem zgX {cx : XCx} (N : GN cx fs08 bs08) : SoundSs cx sc_relpath (nthBody PySem.Challenge.pw_dn0069_08 21) s_relpath := by
  unfold s_relpath
  exact (zaa (zad rfl (nLoc rfl) (zak rfl (zbF N) rfl (.cons (sVar rfl nn_path) rfl .nil)) (fun _ _ _ => rfl))
  (zaa (zah (zaF (sVar rfl nn_path)) zaw zac)
  (zaa (zah (zaj rfl (zaT N) (by decide) rfl (.builtin _) rfl (.cons (sVar rfl nn_path) rfl (.cons (zaB rfl (zcV N) (by decide) rfl rfl) rfl .nil)) zbz) zaw (zaa (zad rfl (nLoc rfl) (zab rfl) (fun _ _ _ => rfl))
  (zaa (zad rfl (nLoc rfl) (zab rfl) (fun _ _ _ => rfl))
  (zaa (zad rfl (nLoc rfl) (zab rfl) (fun _ _ _ => rfl))
  zac))))
  (zaa (zah (zae (sVar rfl zfE) (zab rfl) op_is rfl) (zaa (zad rfl (nLoc rfl) (sVar rfl zen) (fun _ _ _ => rfl))
  zac) (zaa (zad rfl (nLoc rfl) (zak rfl (zbF N) rfl (.cons (sVar rfl zfE) rfl .nil)) (fun _ _ _ => rfl))
  zac))
  (zaa (zcx (zaa (zad rfl (nLoc rfl) (zhK rfl rfl (by decide) (zak rfl (zgz N) rfl (.cons (sVar rfl zfE) rfl .nil)) (.cons (sVar rfl za7) rfl .nil)) (fun _ _ _ => rfl))
  (zaa (zad rfl (nLoc rfl) (zhK rfl rfl (by decide) (zak rfl (zgz N) rfl (.cons (sVar rfl nn_path) rfl .nil)) (.cons (sVar rfl za7) rfl .nil)) (fun _ _ _ => rfl))
  (zaa (zad rfl (nLoc rfl) (zbZ (sVar rfl zc6) (zfJ rfl rfl (by decide) (sVar rfl zc6) (.cons (sVar rfl za7) rfl .nil)) (zav .nil)) (fun _ _ _ => rfl))
  (zaa (zad rfl (nLoc rfl) (zbZ (sVar rfl zdJ) (zfJ rfl rfl (by decide) (sVar rfl zdJ) (.cons (sVar rfl za7) rfl .nil)) (zav .nil)) (fun _ _ _ => rfl))
  (zaa (zad rfl (nLoc rfl) (zaj rfl (b_len N) (by decide) rfl (.builtin _) rfl (.cons (zak rfl (zeU N) rfl (.cons (zav (.cons (sVar rfl zc7) rfl (.cons (sVar rfl zdK) rfl .nil))) rfl .nil)) rfl .nil) zby) (fun _ _ _ => rfl))
  (zaa (zad rfl (nLoc rfl) (zal (zal (zav (.cons (sVar rfl zjw) rfl .nil)) (zal (zaj rfl (b_len N) (by decide) rfl (.builtin _) rfl (.cons (sVar rfl zc7) rfl .nil) zby) (sVar rfl nn_i) zln) zjh) (zap (sVar rfl zdK) (.yes (sVar rfl nn_i)) .no) zaH) (fun _ _ _ => rfl))
  (zaa (zah (zaF (sVar rfl zel)) (zaa (zam (sVar rfl zen))
  zac) zac)
  (zaa (zam (zfb rfl rfl (by decide) (sVar rfl za7) (.cons (sVar rfl zel) rfl .nil)))
  zac)))))))))
  zac)))))
noncomputable def sc_commonprefix : Sc := { kinds := [(os "m", .local), (os "s1", .local), (os "s2", .local), (os "i", .local), (os "c", .local), (os "isinstance", .globalImplicit), (os "list", .globalImplicit), (os "tuple", .globalImplicit), (os "map", .globalImplicit), (os "fspath", .globalImplicit), (os "min", .globalImplicit), (os "max", .globalImplicit), (os "enumerate", .globalImplicit)], vars := [(os "m", 0), (os "s1", 1), (os "s2", 2), (os "i", 3), (os "c", 4)] }
theorem zdQ {cx : XCx} (N : GN cx fs08 bs08) : SoundSs cx sc_commonprefix (nthBody PySem.Challenge.pw_dn0069_08 12) s_commonprefix := by
  unfold s_commonprefix
  exact (zaa (zah (zaF (sVar rfl nn_m)) (zaa (zam (zab rfl))
  zac) zac)
  (zaa (zah (zaF (zaj rfl (zaT N) (by decide) rfl (.builtin _) rfl (.cons (zai (sVar rfl nn_m) (zab rfl)) rfl (.cons (zba (.cons (zaB rfl (zlD N) (by decide) rfl rfl) rfl (.cons (zaB rfl (zkl N) (by decide) rfl rfl) rfl .nil))) rfl .nil)) zbz)) zaw zac)
  (zaa (zad rfl (nLoc rfl) (zaj rfl (b_min N) (by decide) rfl (.builtin _) rfl (.cons (sVar rfl nn_m) rfl .nil) zlo) (fun _ _ _ => rfl))
  (zaa (zad rfl (nLoc rfl) (zaj rfl (b_max N) (by decide) rfl (.builtin _) rfl (.cons (sVar rfl nn_m) rfl .nil) zlp) (fun _ _ _ => rfl))
  (zaa (zcH rfl (zeA N) rfl rfl (nLoc rfl) (nLoc rfl) (sVar rfl nn_s1) rfl (zaa (zah (zae (sVar rfl nn_c) (zai (sVar rfl nn_s2) (sVar rfl nn_i)) op_ne rfl) (zaa (zam (zap (sVar rfl nn_s1) .no (.yes (sVar rfl nn_i))))
  zac) zac)
  zac) (fun _ _ => rfl))
  (zaa (zam (sVar rfl nn_s1))
  zac))))))
noncomputable def sc_commonpath : Sc := { kinds := [(os "paths", .local), (os "sep", .cell), (os "curdir", .cell), (os "split_paths", .local), (os "isabs", .local), (os "c", .local), (os "s1", .local), (os "s2", .local), (os "common", .local), (os "i", .local), (os "prefix", .local), (os "tuple", .globalImplicit), (os "map", .globalImplicit), (os "fspath", .globalImplicit), (os "ValueError", .globalImplicit), (os "isinstance", .globalImplicit), (os "bytes", .globalImplicit), (os "min", .globalImplicit), (os "max", .globalImplicit), (os "enumerate", .globalImplicit), (os "TypeError", .globalImplicit), (os "AttributeError", .globalImplicit), (os "_check_arg_types", .globalImplicit)], vars := [(os "paths", 0), (os "sep", 1), (os "curdir", 2), (os "split_paths", 3), (os "isabs", 4), (os "c", 5), (os "s1", 6), (os "s2", 7), (os "common", 8), (os "i", 9), (os "prefix", 10)] }
theorem zeP {cx : XCx} (N : GN cx fs08 bs08) : SoundSs cx sc_commonpath (nthBody PySem.Challenge.pw_dn0069_08 22) s_commonpath := by
  unfold s_commonpath
  exact (zaa (zad rfl (nLoc rfl) (zid rfl (zkl N) rfl (b_map N) rfl (zbF N) rfl (sVar rfl zaQ) rfl) (fun _ _ _ => rfl))
  (zaa (zah (zaF (sVar rfl zaQ)) zaw zac)
  (zaa (zah (zaj rfl (zaT N) (by decide) rfl (.builtin _) rfl (.cons (zai (sVar rfl zaQ) (zab rfl)) rfl (.cons (zaB rfl (zcV N) (by decide) rfl rfl) rfl .nil)) zbz) zaw (zaa (zad rfl (nfree rfl) (zab rfl) (fun _ _ _ => rfl))
  (zaa (zad rfl (nfree rfl) (zab rfl) (fun _ _ _ => rfl))
  zac)))
  (zaa (zcx (zaa (zbc ⟨zaM, zca, (zaD (sVar rfl zaQ)), zbr rfl, zbX, (zfJ rfl rfl (by decide) (sVar rfl nn_path) (.cons (sVar rfl za7) rfl .nil)), fun _ _ => rfl⟩ rfl (nLoc rfl) (swapC rfl rfl rfl))
  (zaa (zcx (zaa (zdP rfl (nLoc rfl) ⟨zaM, zca, (zaD (sVar rfl zaQ)), zbr rfl, zbX, (zcp rfl rfl (by decide) (sVar rfl nn_p) (.cons (sVar rfl za7) rfl .nil)), fun _ _ => rfl⟩ (fun _ => rfl))
  zac))
  (zaa (zbc ⟨zaM, zca, (zaD (sVar rfl zbU)), zbr rfl, zbX, (zdj ⟨zaM, zca, (zaD (sVar rfl nn_s)), zbr rfl, (zd6 (zaq (.and (sVar rfl nn_c) (.one (zae (sVar rfl nn_c) (sVar rfl zen) op_ne rfl))))), (sVar rfl nn_c), fun _ _ => rfl⟩), fun _ _ => rfl⟩ rfl (nLoc rfl) (swapC rfl rfl rfl))
  (zaa (zad rfl (nLoc rfl) (zaj rfl (b_min N) (by decide) rfl (.builtin _) rfl (.cons (sVar rfl zbU) rfl .nil) zlo) (fun _ _ _ => rfl))
  (zaa (zad rfl (nLoc rfl) (zaj rfl (b_max N) (by decide) rfl (.builtin _) rfl (.cons (sVar rfl zbU) rfl .nil) zlp) (fun _ _ _ => rfl))
  (zaa (zad rfl (nLoc rfl) (sVar rfl nn_s1) (fun _ _ _ => rfl))
  (zaa (zcH rfl (zeA N) rfl rfl (nLoc rfl) (nLoc rfl) (sVar rfl nn_s1) rfl (zaa (zah (zae (sVar rfl nn_c) (zai (sVar rfl nn_s2) (sVar rfl nn_i)) op_ne rfl) (zaa (zad rfl (nLoc rfl) (zap (sVar rfl nn_s1) .no (.yes (sVar rfl nn_i))) (fun _ _ _ => rfl))
  (zaa zgg
  zac)) zac)
  zac) (fun _ _ => rfl))
  (zaa (zad rfl (nLoc rfl) (zbZ (sVar rfl zkX) (sVar rfl za7) (zap (sVar rfl za7) .no (.yes (zab rfl)))) (fun _ _ _ => rfl))
  (zaa (zam (zal (sVar rfl zjv) (zfb rfl rfl (by decide) (sVar rfl za7) (.cons (sVar rfl zjz) rfl .nil)) zaH))
  zac))))))))))
  zac))))
noncomputable def sc_law_one : Sc := { kinds := [(os "part", .local), (os "sign", .local), (os "body", .local), (os "barred", .local), (os "k", .local), (os "found", .local), (os "low", .local), (os "high", .local), (os "len", .globalImplicit)], vars := [(os "part", 0), (os "sign", 1), (os "body", 2), (os "barred", 3), (os "k", 4), (os "found", 5), (os "low", 6), (os "high", 7)] }
theorem zgY {cx : XCx} (N : GN cx fs08 bs08) : SoundSs cx sc_law_one (nthBody PySem.Challenge.pw_dn0069_08 30) s_law_one := by
  unfold s_law_one
  exact (zaa (zah (zaq (.or (zae (sVar rfl zcm) (zab rfl) op_eq rfl) (.one (zae (sVar rfl zcm) (zab (by kernel_rfl)) op_eq rfl)))) (zaa (zam (zae (sVar rfl zcm) (zab rfl) op_eq rfl))
  zac) zac)
  (zaa (zah (zae (zai (sVar rfl zcm) (zab rfl)) (zab rfl) op_ne rfl) (zaa (zam (zae (zai (sVar rfl zcm) (zc1 (zab rfl) zgk (fun h => nomatch h))) (sVar rfl zdu) op_eq rfl))
  zac) zac)
  (zaa (zad rfl (nLoc rfl) (zap (sVar rfl zcm) (.yes (zab rfl)) (.yes (zc1 (zab rfl) zgk (fun h => nomatch h)))) (fun _ _ _ => rfl))
  (zaa (zad rfl (nLoc rfl) (zae (zai (sVar rfl zco) (zab rfl)) (zab rfl) op_eq rfl) (fun _ _ _ => rfl))
  (zaa (zad rfl (nLoc rfl) (zbZ (sVar rfl zgn) (zab rfl) (zab rfl)) (fun _ _ _ => rfl))
  (zaa (zad rfl (nLoc rfl) (zab rfl) (fun _ _ _ => rfl))
  (zaa (zbw (zae (sVar rfl nn_k) (zaj rfl (b_len N) (by decide) rfl (.builtin _) rfl (.cons (sVar rfl zco) rfl .nil) zby) op_lt rfl) (zaa (zah (zae (zai (sVar rfl zco) (sVar rfl nn_k)) (zab rfl) op_eq rfl) (zaa (zad rfl (nLoc rfl) (zal (sVar rfl nn_k) (zab rfl) zaH) (fun _ _ _ => rfl))
  zac) zac)
  (zaa (zad rfl (nLoc rfl) (zai (sVar rfl zco) (sVar rfl nn_k)) (fun _ _ _ => rfl))
  (zaa (zad rfl (nLoc rfl) (sVar rfl zlu) (fun _ _ _ => rfl))
  (zaa (zad rfl (nLoc rfl) (zal (sVar rfl nn_k) (zab rfl) zaH) (fun _ _ _ => rfl))
  (zaa (zah (zaq (.and (zae (zal (sVar rfl nn_k) (zab rfl) zaH) (zaj rfl (b_len N) (by decide) rfl (.builtin _) rfl (.cons (sVar rfl zco) rfl .nil) zby) op_lt rfl) (.one (zae (zai (sVar rfl zco) (sVar rfl nn_k)) (zab rfl) op_eq rfl)))) (zaa (zad rfl (nLoc rfl) (zal (sVar rfl nn_k) (zab rfl) zaH) (fun _ _ _ => rfl))
  (zaa (zah (zae (zai (sVar rfl zco) (sVar rfl nn_k)) (zab rfl) op_eq rfl) (zaa (zad rfl (nLoc rfl) (zal (sVar rfl nn_k) (zab rfl) zaH) (fun _ _ _ => rfl))
  zac) zac)
  (zaa (zad rfl (nLoc rfl) (zai (sVar rfl zco) (sVar rfl nn_k)) (fun _ _ _ => rfl))
  (zaa (zad rfl (nLoc rfl) (zal (sVar rfl nn_k) (zab rfl) zaH) (fun _ _ _ => rfl))
  zac)))) zac)
  (zaa (zah (zaq (.and (zae (sVar rfl zlu) (sVar rfl zdu) op_le rfl) (.one (zae (sVar rfl zdu) (sVar rfl nn_high) op_le rfl)))) (zaa (zad rfl (nLoc rfl) (zab rfl) (fun _ _ _ => rfl))
  zac) zac)
  zac)))))))
  (zaa (zam (zae (sVar rfl zkY) (sVar rfl zgn) op_ne rfl))
  zac))))))))
noncomputable def sc_law_takes : Sc := { kinds := [(os "parts", .local), (os "star", .local), (os "name", .cell), (os "at", .local), (os "part", .cell), (os "list", .globalImplicit), (os "range", .globalImplicit), (os "len", .globalImplicit)], vars := [(os "parts", 0), (os "star", 1), (os "name", 2), (os "at", 3), (os "part", 4)] }
theorem zfv {cx : XCx} (N : GN cx fs08 bs08) : SoundSs cx sc_law_takes (nthBody PySem.Challenge.pw_dn0069_08 31) s_law_takes := by
  unfold s_law_takes
  exact (zaa (zad rfl (nLoc rfl) (zav (.cons (zab rfl) rfl .nil)) (fun _ _ _ => rfl))
  (zaa (za2 rfl (nfree rfl) (zaD (sVar rfl zhF)) (zaa (zah (zae (sVar rfl zcm) (sVar rfl zcO) op_is rfl) (zaa (zad rfl (nLoc rfl) (zbZ (sVar rfl nn_at) (zec rfl (zlD N) rfl (zdA N) (.cons (zai (sVar rfl nn_at) (zab rfl)) rfl (.cons (zal (zaj rfl (b_len N) (by decide) rfl (.builtin _) rfl (.cons (sVar rfl zfF) rfl .nil) zby) (zab rfl) zaH) rfl .nil))) (zav .nil)) (fun _ _ _ => rfl))
  zac) (zaa (zbc ⟨zaM, zca, (zaD (sVar rfl nn_at)), zbr rfl, (zd6 (zaq (.and (zae (sVar rfl nn_p) (zaj rfl (b_len N) (by decide) rfl (.builtin _) rfl (.cons (sVar rfl zfF) rfl .nil) zby) op_lt rfl) (.one (zak rfl (zjZ N) rfl (.cons (sVar rfl zcm) rfl (.cons (zai (sVar rfl zfF) (sVar rfl nn_p)) rfl .nil))))))), (zal (sVar rfl nn_p) (zab rfl) zaH), fun _ _ => rfl⟩ rfl (nLoc rfl) (swapC rfl rfl rfl))
  zac))
  zac) (fun _ _ => rfl))
  (zaa (zam (zae (zaj rfl (b_len N) (by decide) rfl (.builtin _) rfl (.cons (sVar rfl zfF) rfl .nil) zby) (sVar rfl nn_at) op_in rfl))
  zac)))
noncomputable def sc_law_drawn : Sc := { kinds := [(os "number", .local), (os "out", .local), (os "left", .local), (os "abs", .globalImplicit), (os "len", .globalImplicit)], vars := [(os "number", 0), (os "out", 1), (os "left", 2)] }
theorem zfw {cx : XCx} (N : GN cx fs08 bs08) : SoundSs cx sc_law_drawn (nthBody PySem.Challenge.pw_dn0069_08 33) s_law_drawn := by
  unfold s_law_drawn
  exact (zaa (zbb rfl (nLoc rfl) (zav .nil) (fun _ _ _ => rfl))
  (zaa (zad rfl (nLoc rfl) (zaj rfl (b_abs N) (by decide) rfl (.builtin _) rfl (.cons (sVar rfl zjx) rfl .nil) zlq) (fun _ _ _ => rfl))
  (zaa (zbw (zaq (.and (zae (sVar rfl zhd) (zab rfl) op_gt rfl) (.one (zae (zaj rfl (b_len N) (by decide) rfl (.builtin _) rfl (.cons (sVar rfl nn_out) rfl .nil) zby) (zab rfl) op_lt rfl)))) (zaa (zb7 rfl nn_out.1 nn_out.2 rfl (zai (zba (.cons (zab rfl) rfl (.cons (zab rfl) rfl (.cons (zab rfl) rfl (.cons (zab rfl) rfl (.cons (zab (by kernel_rfl)) rfl .nil)))))) (zal (sVar rfl zhd) (zab rfl) op_mod)) rfl)
  (zaa (zad rfl (nLoc rfl) (zal (sVar rfl zhd) (zab rfl) op_div) (fun _ _ _ => rfl))
  zac)))
  (zaa (zed ⟨os "out", rfl⟩ (zam (sVar rfl nn_out)))
  zac))))
noncomputable def sc_law_quoted : Sc := { kinds := [(os "text", .local)], vars := [(os "text", 0)] }
theorem zeO {cx : XCx} (N : GN cx fs08 bs08) : SoundSs cx sc_law_quoted (nthBody PySem.Challenge.pw_dn0069_08 32) s_law_quoted := by
  unfold s_law_quoted
  exact (zaa (zam (zfb rfl rfl (by decide) (zab rfl) (.cons (zdj ⟨zaM, zca, (zaD (sVar rfl nn_text)), zbr rfl, zbX, (zbZ (zae (sVar rfl zdu) (zab rfl) op_in rfl) (zal (zal (zab rfl) (sVar rfl zdu) zaH) (zab rfl) zaH) (sVar rfl zdu)), fun _ _ => rfl⟩) rfl .nil)))
  zac)
noncomputable def sc_law_told : Sc := { kinds := [(os "names", .local)], vars := [(os "names", 0)] }
theorem zgj {cx : XCx} (N : GN cx fs08 bs08) : SoundSs cx sc_law_told (nthBody PySem.Challenge.pw_dn0069_08 34) s_law_told := by
  unfold s_law_told
  exact (zaa (zam (zal (zab rfl) (zfb rfl rfl (by decide) (zab rfl) (.cons (sVar rfl zhG) rfl .nil)) zaH))
  zac)
noncomputable def sc_law : Sc := { kinds := [(os "script", .cell), (os "star", .cell), (os "k", .local), (os "places", .local), (os "paths", .local), (os "above", .local), (os "under", .local), (os "path", .local), (os "i", .local), (os "j", .local), (os "one", .local), (os "other", .local), (os "same", .local), (os "below", .local), (os "way", .local), (os "last", .local), (os "some", .local), (os "whole", .local), (os "folder", .cell), (os "step", .local), (os "parts", .cell), (os "takes", .local), (os "range", .globalImplicit), (os "len", .globalImplicit), (os "dirname", .globalImplicit), (os "_law_told", .globalImplicit), (os "_translate", .globalImplicit), (os "_law_quoted", .globalImplicit), (os "relpath", .globalImplicit), (os "_law_takes", .globalImplicit), (os "commonpath", .globalImplicit)], vars := [(os "script", 0), (os "star", 1), (os "k", 2), (os "places", 3), (os "paths", 4), (os "above", 5), (os "under", 6), (os "path", 7), (os "i", 8), (os "j", 9), (os "one", 10), (os "other", 11), (os "same", 12), (os "below", 13), (os "way", 14), (os "last", 15), (os "some", 16), (os "whole", 17), (os "folder", 18), (os "step", 19), (os "parts", 20), (os "takes", 21)] }
theorem snd_law {cx : XCx} (N : GN cx fs08 bs08) : SoundSs cx sc_law ((nthBody PySem.Challenge.pw_dn0069_08 35).drop 1) s_law := by
  unfold s_law
  exact (zaa (zbc ⟨zaM, zca, (zbx rfl (zdA N) (.cons (zab rfl) rfl .nil)), zbr rfl, zbX, (zak rfl (zhl N) rfl (.cons (zal (zaj rfl (b_abs N) (by decide) rfl (.builtin _) rfl (.cons (zaj rfl (b_sum N) (by decide) rfl (.builtin _) rfl (.cons (zgd (sVar rfl zju) (.yes (sVar rfl nn_k)) .no (zab rfl)) rfl .nil) op_sum) rfl .nil) zlq) (zai (zba (.cons (zab rfl) rfl (.cons (zab rfl) rfl (.cons (zab rfl) rfl (.cons (zab rfl) rfl .nil))))) (sVar rfl nn_k)) zaH) rfl .nil)), fun _ _ => rfl⟩ rfl (nLoc rfl) (swapC rfl rfl rfl))
  (zaa (zad rfl (nLoc rfl) (zal (sVar rfl zb2) (zav (.cons (zav (.cons (zab rfl) rfl .nil)) rfl (.cons (zav (.cons (zab rfl) rfl .nil)) rfl .nil))) zaH) (fun _ _ _ => rfl))
  (zaa (zbc ⟨zaM, zca, (zaD (sVar rfl zb2)), zbr rfl, zbX, (zak rfl (zdx N) rfl (.cons (sVar rfl zhG) rfl .nil)), fun _ _ => rfl⟩ rfl (nLoc rfl) (swapC rfl rfl rfl))
  (zaa (za2 rfl (nLoc rfl) (zbx rfl (zdA N) (.cons (zaj rfl (b_len N) (by decide) rfl (.builtin _) rfl (.cons (sVar rfl zb2) rfl .nil) zby) rfl .nil)) (zaa (zah (zae (zak rfl (zgy N) rfl (.cons (zai (sVar rfl zaQ) (sVar rfl nn_k)) rfl .nil)) (zak rfl (zdx N) rfl (.cons (zap (zai (sVar rfl zb2) (sVar rfl nn_k)) .no (.yes (zc1 (zab rfl) zgk (fun h => nomatch h)))) rfl .nil)) op_ne rfl) (zaa (zam (zab rfl))
  zac) zac)
  zac) (fun _ _ => rfl))
  (zaa (zad rfl (nLoc rfl) (zak rfl (zcR N) rfl (.cons (zab (by kernel_rfl)) rfl (.cons (sVar rfl zcO) rfl (.cons (zab rfl) rfl .nil)))) (fun _ _ _ => rfl))
  (zaa (zbb rfl (nLoc rfl) (zav .nil) (fun _ _ _ => rfl))
  (zaa (za2 rfl (nLoc rfl) (zaD (sVar rfl zaQ)) (zaa (zb7 rfl nn_under.1 nn_under.2 rfl (zak rfl (zcR N) rfl (.cons (zal (zak rfl (zdN N) rfl (.cons (zfK rfl rfl (by decide) (sVar rfl nn_path) (.cons (zab rfl) rfl .nil)) rfl .nil)) (zab rfl) zaH) rfl (.cons (sVar rfl zcO) rfl (.cons (zab rfl) rfl .nil)))) rfl)
  zac) (fun _ _ => rfl))
  (zaa (za2 rfl (nLoc rfl) (zbx rfl (zdA N) (.cons (zaj rfl (b_len N) (by decide) rfl (.builtin _) rfl (.cons (sVar rfl zaQ) rfl .nil) zby) rfl .nil)) (zaa (za2 rfl (nLoc rfl) (zbx rfl (zdA N) (.cons (zaj rfl (b_len N) (by decide) rfl (.builtin _) rfl (.cons (sVar rfl zaQ) rfl .nil) zby) rfl .nil)) (zaa (zad rfl (nLoc rfl) (zai (sVar rfl zb2) (sVar rfl nn_i)) (fun _ _ _ => rfl))
  (zaa (zad rfl (nLoc rfl) (zai (sVar rfl zb2) (sVar rfl nn_j)) (fun _ _ _ => rfl))
  (zaa (zad rfl (nLoc rfl) (zab rfl) (fun _ _ _ => rfl))
  (zaa (zbw (zaq (.and (zae (zap (sVar rfl zgl) (.yes (sVar rfl zbV)) (.yes (zal (sVar rfl zbV) (zab rfl) zaH))) (zap (sVar rfl zdZ) (.yes (sVar rfl zbV)) (.yes (zal (sVar rfl zbV) (zab rfl) zaH))) op_eq rfl) (.one (zae (sVar rfl zbV) (zaj rfl (b_len N) (by decide) rfl (.builtin _) rfl (.cons (sVar rfl zgl) rfl .nil) zby) op_lt rfl)))) (zaa (zad rfl (nLoc rfl) (zal (sVar rfl zbV) (zab rfl) zaH) (fun _ _ _ => rfl))
  zac))
  (zaa (zad rfl (nLoc rfl) (zae (sVar rfl zbV) (zaj rfl (b_len N) (by decide) rfl (.builtin _) rfl (.cons (sVar rfl zdZ) rfl .nil) zby) op_eq rfl) (fun _ _ _ => rfl))
  (zaa (zad rfl (nLoc rfl) (zak rfl (zjY N) rfl (.cons (zai (sVar rfl zaQ) (sVar rfl nn_i)) rfl (.cons (zai (sVar rfl zaQ) (sVar rfl nn_j)) rfl .nil))) (fun _ _ _ => rfl))
  (zaa (zah (zae (sVar rfl zjt) (zaq (.or (zfb rfl rfl (by decide) (zab rfl) (.cons (zal (zal (zav (.cons (zab rfl) rfl .nil)) (zal (zaj rfl (b_len N) (by decide) rfl (.builtin _) rfl (.cons (sVar rfl zdZ) rfl .nil) zby) (sVar rfl zbV) zln) zjh) (zap (sVar rfl zgl) (.yes (sVar rfl zbV)) .no) zaH) rfl .nil)) (.one (zab rfl)))) op_ne rfl) (zaa (zam (zab rfl))
  zac) zac)
  (zaa (zah (zae (zaq (.and (zae (sVar rfl zjt) (zab rfl) op_ne rfl) (.one (zaF (zak rfl (zcS N) rfl (.cons (sVar rfl zkZ) rfl (.cons (sVar rfl zcO) rfl (.cons (sVar rfl zjt) rfl .nil)))))))) (sVar rfl zhI) op_ne rfl) (zaa (zam (zab rfl))
  zac) zac)
  (zaa (zah (zae (zak rfl (zcq N) rfl (.cons (zav (.cons (zai (sVar rfl zaQ) (sVar rfl nn_i)) rfl (.cons (zai (sVar rfl zaQ) (sVar rfl nn_j)) rfl .nil))) rfl .nil)) (zak rfl (zdx N) rfl (.cons (zap (sVar rfl zgl) .no (.yes (sVar rfl zbV))) rfl .nil)) op_ne rfl) (zaa (zam (zab rfl))
  zac) zac)
  (zaa (zah (zae (zaq (.or (zak rfl (zcS N) rfl (.cons (zai (sVar rfl nn_under) (sVar rfl nn_j)) rfl (.cons (sVar rfl zcO) rfl (.cons (zai (sVar rfl zaQ) (sVar rfl nn_i)) rfl .nil)))) (.one (zae (sVar rfl zgl) (sVar rfl zdZ) op_eq rfl)))) (sVar rfl zhI) op_ne rfl) (zaa (zam (zab rfl))
  zac) zac)
  zac)))))))))) (fun _ _ => rfl))
  zac) (fun _ _ => rfl))
  (zaa (za2 rfl (nLoc rfl) (zaD (zba (.cons (zab rfl) rfl (.cons (zab rfl) rfl (.cons (zaj rfl (b_len N) (by decide) rfl (.builtin _) rfl (.cons (sVar rfl zaQ) rfl .nil) zby) rfl .nil))))) (zaa (zad rfl (nLoc rfl) (zap (sVar rfl zaQ) .no (.yes (sVar rfl nn_last))) (fun _ _ _ => rfl))
  (zaa (zad rfl (nLoc rfl) (zak rfl (zcq N) rfl (.cons (sVar rfl zhc) rfl .nil)) (fun _ _ _ => rfl))
  (zaa (zad rfl (nfree rfl) (zai (sVar rfl zhc) (zab rfl)) (fun _ _ _ => rfl))
  (zaa (za2 rfl (nLoc rfl) (zbx rfl (zdA N) (.cons (zab rfl) rfl .nil)) (zaa (zad rfl (nfree rfl) (zak rfl (zcR N) rfl (.cons (zal (zak rfl (zdN N) rfl (.cons (zfK rfl rfl (by decide) (sVar rfl zcn) (.cons (zab rfl) rfl .nil)) rfl .nil)) (zab rfl) zaH) rfl (.cons (sVar rfl zcO) rfl (.cons (zab rfl) rfl .nil)))) (fun _ _ _ => rfl))
  (zaa (zad rfl (nLoc rfl) (zae (zdj ⟨zaM, zca, (zaD (sVar rfl zhc)), zbr rfl, (zd6 (zaq (.and (zae (sVar rfl nn_path) (sVar rfl zcn) op_ne rfl) (.one (zaF (zak rfl (zcS N) rfl (.cons (sVar rfl zhF) rfl (.cons (sVar rfl zcO) rfl (.cons (sVar rfl nn_path) rfl .nil))))))))), (sVar rfl nn_path), fun _ _ => rfl⟩) (zav .nil) op_eq rfl) (fun _ _ _ => rfl))
  (zaa (zah (zae (sVar rfl zkW) (zae (zak rfl (zcq N) rfl (.cons (zav (.cons (sVar rfl zkV) rfl (.cons (sVar rfl zcn) rfl .nil))) rfl .nil)) (sVar rfl zcn) op_eq rfl) op_ne rfl) (zaa (zam (zab rfl))
  zac) zac)
  (zaa (zad rfl (nfree rfl) (zak rfl (zgy N) rfl (.cons (sVar rfl zcn) rfl .nil)) (fun _ _ _ => rfl))
  zac)))) (fun _ _ => rfl))
  zac)))) (fun _ _ => rfl))
  (zaa (zam (zab rfl))
  zac))))))))))
end Mine
end W08x
section
open PySem
namespace Mine
set_option genInjectivity false in
structure At (pat : List Nat) (p : Nat) (u : List Nat) : Prop where
  drop : pat.drop p = u
  le : p ≤ pat.length
  small : pat.length ≤ 100000
noncomputable def P (p k : Nat) : D := .int ((p + k : Nat) : Int)
noncomputable def N (pat : List Nat) : D := .int (pat.length : Int)
section
variable {pat u : List Nat} {p : Nat}
theorem At.len (H : At pat p u) : pat.length = p + u.length := by
  have := congrArg List.length H.drop
  rw [List.length_drop] at this
  have := H.le
  omega
theorem At.get (H : At pat p u) (k : Nat) : pat[p + k]? = u[k]? := by rw [← H.drop, List.getElem?_drop]
theorem zkz {z : Int} (h1 : 0 ≤ z) (h2 : z ≤ 200000) : small z = true := by
  unfold small
  simp only [Bool.and_eq_true, decide_eq_true_eq]
  omega
theorem At.sm (H : At pat p u) {k : Nat} (hk : k ≤ 100000) : Mine.small ((p + k : Nat) : Int) = true :=
  zkz (Int.natCast_nonneg _) (by have h := Nat.add_le_add (Nat.le_trans H.le H.small) hk; clear hk; omega)
theorem P_add (k j : Nat) : opF .add [P p k, .int (j : Int)] = some (.val (P p (k + j))) := by
  show some (R.val (.int (((p + k : Nat) : Int) + (j : Int)))) = some (R.val (.int ((p + (k + j) : Nat) : Int)))
  rw [show (((p + k : Nat) : Int) + (j : Int)) = ((p + (k + j) : Nat) : Int) by omega]
theorem idx (H : At pat p u) {k : Nat} (hk : k ≤ 100000) : opF .index [.str pat, P p k] = (u[k]?).map fun c => .val (.str [c]) := by
  have hl := H.len
  have hs := H.small
  show (if small ((p + k : Nat) : Int) then (match place ((p + k : Nat) : Int) pat.length with | some k => (pat[k]?).map fun c => R.val (.str [c]) | Option.none => Option.none) else Option.none) = _
  rw [H.sm hk]
  simp only [if_true]
  unfold place
  rw [if_pos (Int.natCast_nonneg _)]
  by_cases h : p + k < pat.length
  · rw [if_pos (by exact_mod_cast h)]
    simp only [Int.toNat_natCast]
    rw [H.get]
  · rw [if_neg (by exact_mod_cast h)]
    rw [← H.get, List.getElem?_eq_none (Nat.not_lt.mp h)]
    rfl
theorem zgW {k : Nat} : (u[k]?).isSome = decide (k < u.length) := by
  by_cases h : k < u.length
  · rw [List.getElem?_eq_getElem h]; simp [h]
  · rw [List.getElem?_eq_none (Nat.not_lt.mp h)]; simp [h]
theorem lt_N (H : At pat p u) {k : Nat} : opF .lt [P p k, N pat] = some (.val (.bool (u[k]?).isSome)) := by
  have hl := H.len
  show some (R.val (.bool (decide (((p + k : Nat) : Int) < (pat.length : Int))))) = _
  rw [zgW]
  congr 4
  simp only [eq_iff_iff]
  omega
theorem ge_N (H : At pat p u) {k : Nat} : opF .ge [P p k, N pat] = some (.val (.bool (!(u[k]?).isSome))) := by
  have hl := H.len
  show some (R.val (.bool (decide ((pat.length : Int) ≤ ((p + k : Nat) : Int))))) = _
  rw [zgW, ← decide_not]
  congr 4
  simp only [eq_iff_iff]
  omega
theorem sl (H : At pat p u) {a b : Nat} (ha : a ≤ 100000) (hb : b ≤ 100000) : opF .slice [.str pat, P p a, P p b] = some (.val (.str (cut u a b))) := by
  have hl := H.len
  have hs := H.small
  have cl : ∀ k d : Nat, k ≤ 100000 → bound (P p k) d pat.length = some (min (p + k) pat.length) := fun k d hk => by
    show (if small ((p + k : Nat) : Int) then some (clip ((p + k : Nat) : Int) pat.length) else Option.none) = _
    rw [H.sm hk]
    simp only [if_true]
    unfold clip
    rw [if_neg (Int.not_lt.mpr (Int.natCast_nonneg _))]
    by_cases h : p + k < pat.length
    · rw [if_pos (by exact_mod_cast h), Int.toNat_natCast, Nat.min_eq_left (Nat.le_of_lt h)]
    · rw [if_neg (by exact_mod_cast h), Nat.min_eq_right (Nat.not_lt.mp h)]
  show (match bound (P p a) 0 pat.length, bound (P p b) pat.length pat.length with
    | some lo, some hi => some (R.val (.str (cut pat lo hi)))
    | _, _ => Option.none) = _
  rw [cl a 0 ha, cl b _ hb]
  show some (R.val (.str (cut pat (min (p + a) pat.length) (min (p + b) pat.length)))) = _
  congr 3
  unfold cut
  rw [← H.drop, List.drop_drop]
  have e1 : pat.drop (min (p + a) pat.length) = pat.drop (p + a) := by
    by_cases h : p + a ≤ pat.length
    · rw [Nat.min_eq_left h]
    · rw [Nat.min_eq_right (Nat.le_of_not_le h), List.drop_eq_nil_of_le (Nat.le_refl _), List.drop_eq_nil_of_le (Nat.le_of_not_le h)]
  rw [e1]
  by_cases h : p + b ≤ pat.length
  · rw [Nat.min_eq_left h]
    by_cases h' : p + a ≤ pat.length
    · rw [Nat.min_eq_left h', Nat.add_sub_add_left]
    · rw [List.drop_eq_nil_of_le (i := p + a) (Nat.le_of_not_le h')]; simp
  · have h2 := Nat.le_of_not_le h
    rw [Nat.min_eq_right h2]
    rw [List.take_of_length_le (by rw [List.length_drop]; clear hs ha hb cl e1 hl h; omega), List.take_of_length_le (by rw [List.length_drop]; clear hs ha hb cl e1 hl h; omega)]
end
end Mine
end
section
open PySem PySem.StrLaws PySem.Builtin PySem.Builtin.Str
namespace Mine
theorem sub1 (a : List Nat) (c i hi : Nat) : (i + (⟨#[c]⟩ : PySem.Str).length ≤ hi ∧ subAt ⟨a.toArray⟩ ⟨#[c]⟩ i = true) ↔ (i < hi ∧ a[i]? = some c) := by
  rw [subAt_eq]
  show (i + 1 ≤ hi ∧ ((a.drop i).take 1 == [c]) = true) ↔ _
  rw [take1_drop]
  exact ⟨fun h => ⟨by omega, h.2⟩, fun h => ⟨by omega, h.2⟩⟩
theorem zkb (b : List Nat) (c : Nat) : Txt.contains ⟨b.toArray⟩ ⟨[c].toArray⟩ = decide (c ∈ b) := found_one ⟨b.toArray⟩ c
theorem zgT (a : List Nat) (c : Nat) : Txt.startswith ⟨a.toArray⟩ ⟨[c].toArray⟩ = decide (a.head? = some c) := by
  unfold Txt.startswith
  have h := sub1 a c 0 a.length
  rw [Bool.eq_iff_iff, Bool.and_eq_true, decide_eq_true_eq, decide_eq_true_eq]
  rw [List.head?_eq_getElem?]
  refine h.trans ⟨fun x => x.2, fun x => ⟨?_, x⟩⟩
  rcases Nat.lt_or_ge 0 a.length with q | q
  · exact q
  · rw [List.getElem?_eq_none q] at x; cases x
theorem zkD {x y : List Nat} {c : Nat} (h : c ∉ y) : Txt.rfind ⟨(x ++ c :: y).toArray⟩ ⟨[c].toArray⟩ = (x.length : Int) := by
  unfold Txt.rfind
  have at' : ∀ i, StrLaws.At ⟨(x ++ c :: y).toArray⟩ ⟨[c].toArray⟩ (PySem.Str.mk (x ++ c :: y).toArray).length i ↔ (i < (x ++ c :: y).length ∧ (x ++ c :: y)[i]? = some c) := fun i => sub1 _ c i _
  rcases last_spec ⟨(x ++ c :: y).toArray⟩ ⟨[c].toArray⟩ with ⟨e, hn⟩ | ⟨i, e, hA, hn⟩
  · exact absurd ((at' x.length).mpr ⟨by simp, by simp⟩) (hn _)
  · rw [e]
    have h1 := ((at' i).mp hA).2
    have : i = x.length := by
      rcases Nat.lt_trichotomy i x.length with q | q | q
      · exact absurd ((at' x.length).mpr ⟨by simp, by simp⟩) (hn _ q)
      · exact q
      · exfalso
        rw [List.getElem?_append_right (by omega)] at h1
        obtain ⟨k, hk⟩ : ∃ k, i - x.length = k + 1 := ⟨i - x.length - 1, by omega⟩
        rw [hk, List.getElem?_cons_succ] at h1
        exact h (List.mem_of_getElem? h1)
    rw [this]
theorem rstrip1 (a : List Nat) (c : Nat) : (Txt.rstripChars ⟨a.toArray⟩ ⟨[c].toArray⟩).cps.toList = (a.reverse.dropWhile fun x => x == c).reverse := by
  unfold Txt.rstripChars Txt.stripBy
  have hg : ∀ x : Nat, ([c].toArray).contains x = (x == c) := fun x => by
    by_cases h : x = c
    · subst h; simp
    · rw [beq_eq_false_iff_ne.mpr h]; simpa using h
  have hlo : stripLo ([c].toArray).contains false ⟨a.toArray⟩ = 0 := rfl
  have key : (strSub ⟨a.toArray⟩ 0 (stripHi ([c].toArray).contains true ⟨a.toArray⟩ 0)).cps.toList = (a.reverse.dropWhile fun x => x == c).reverse := by
    rw [strSub_toList]
    unfold stripHi
    simp only [if_true, List.drop_zero, Nat.sub_zero]
    show a.take (a.length - (a.reverse.takeWhile ([c].toArray).contains).length) = _
    have e : ([c].toArray).contains = fun x => x == c := funext hg
    rw [e]
    have h1 := List.takeWhile_append_dropWhile (p := fun x => x == c) (l := a.reverse)
    have h2 : a = (a.reverse.dropWhile fun x => x == c).reverse ++ (a.reverse.takeWhile fun x => x == c).reverse := by
      rw [← List.reverse_append, h1, List.reverse_reverse]
    have h3 : a.length - (a.reverse.takeWhile fun x => x == c).length = (a.reverse.dropWhile fun x => x == c).reverse.length := by
      have := congrArg List.length h2
      rw [List.length_append, List.length_reverse, List.length_reverse] at this
      rw [List.length_reverse]
      omega
    rw [h3]
    have h4 : ∀ u v : List Nat, a = u ++ v → a.take u.length = u := fun u v e => by rw [e, List.take_left' rfl]
    exact h4 _ _ h2
  show (if stripSame ([c].toArray).contains false true ⟨a.toArray⟩ = true then (PySem.Str.mk a.toArray) else stripped ([c].toArray).contains false true ⟨a.toArray⟩).cps.toList = _
  split
  · rename_i hs
    rw [← key]
    unfold stripSame at hs
    rw [hlo] at hs
    simp only [Bool.and_eq_true, beq_iff_eq] at hs
    rw [hs.2, strSub_toList]
    show a = (a.drop 0).take (a.length - 0)
    simp
  · exact key
theorem lstrip1 (a : List Nat) (c : Nat) : (Txt.lstripChars ⟨a.toArray⟩ ⟨[c].toArray⟩).cps.toList = a.dropWhile fun x => x == c := by
  unfold Txt.lstripChars Txt.stripBy
  have hg : ∀ x : Nat, ([c].toArray).contains x = (x == c) := fun x => by
    by_cases h : x = c
    · subst h; simp
    · rw [beq_eq_false_iff_ne.mpr h]; simpa using h
  have e : ([c].toArray).contains = fun x => x == c := funext hg
  have hlo : stripLo ([c].toArray).contains true ⟨a.toArray⟩ = (a.takeWhile fun x => x == c).length := by
    unfold stripLo
    rw [e]; rfl
  have hhi : ∀ k, stripHi ([c].toArray).contains false ⟨a.toArray⟩ k = a.length := fun k => rfl
  have key : a.drop (a.takeWhile fun x => x == c).length = a.dropWhile fun x => x == c := by
    have h1 := List.takeWhile_append_dropWhile (p := fun x => x == c) (l := a)
    conv => lhs; arg 2; rw [← h1]
    rw [List.drop_left']
    rfl
  show (if stripSame ([c].toArray).contains true false ⟨a.toArray⟩ = true then (PySem.Str.mk a.toArray) else stripped ([c].toArray).contains true false ⟨a.toArray⟩).cps.toList = _
  split
  · rename_i hs
    unfold stripSame at hs
    rw [hlo] at hs
    simp only [Bool.and_eq_true, beq_iff_eq] at hs
    rw [← key, hs.1]
    simp
  · unfold stripped
    rw [hlo, hhi, strSub_toList]
    show (a.drop _).take (a.length - _) = _
    rw [key, List.take_of_length_le]
    rw [← key, List.length_drop]
    exact Nat.le_refl _
theorem zjn {a : List Nat} {c lo hi lim : Nat} (hl : 1 ≤ lim) (h : ∀ i, lo ≤ i → i < hi → a[i]? ≠ some c) : occurrences ⟨a.toArray⟩ ⟨[c].toArray⟩ lo hi lim = [] := by
  rw [occ_eq]
  rcases occ_first ⟨a.toArray⟩ ⟨[c].toArray⟩ hi lim hl (List.range' lo (hi + 1 - lo)) lo (fun i hi => by have := List.mem_range'_1.mp hi; omega) with ⟨h0, _⟩ | ⟨pre, b, post, e, h0, hb, hn⟩
  · rw [h0]
  · exfalso
    have h1 := (sub1 a c b hi).mp hb
    have hs : b ∈ List.range' lo (hi + 1 - lo) := by rw [e]; simp
    have := List.mem_range'_1.mp hs
    exact h b this.1 h1.1 h1.2
theorem zjm {a : List Nat} {c lo hi lim i : Nat} (hl : 1 ≤ lim) (h1 : lo ≤ i) (h2 : i < hi) (h3 : a[i]? = some c) (h : ∀ k, lo ≤ k → k < i → a[k]? ≠ some c) : ∃ r, occurrences ⟨a.toArray⟩ ⟨[c].toArray⟩ lo hi lim = i :: r := by
  rw [occ_eq]
  rcases occ_first ⟨a.toArray⟩ ⟨[c].toArray⟩ hi lim hl (List.range' lo (hi + 1 - lo)) lo (fun i hi => by have := List.mem_range'_1.mp hi; omega) with ⟨h0, hn⟩ | ⟨pre, b, post, e, h0, hb, hn⟩
  · exact absurd ((sub1 a c i hi).mpr ⟨h2, h3⟩) (hn i (by rw [List.mem_range'_1]; omega))
  · have hs := range'_split_from e
    have hb' := (sub1 a c b hi).mp hb
    have : b = i := by
      rcases Nat.lt_trichotomy b i with q | q | q
      · exact absurd hb'.2 (h b hs.1 q)
      · exact q
      · exact absurd ((sub1 a c i hi).mpr ⟨h2, h3⟩) (hn i (hs.2 i h1 q))
    subst this
    generalize (forIn (List.range' lo (hi + 1 - lo)) ((#[] : Array Nat), lo) (occBody ⟨a.toArray⟩ ⟨[c].toArray⟩ hi lim)).run.fst = arr at h0
    have h1 : arr.toList[0]? = some b := by simpa using h0
    cases hL : arr.toList with
    | nil => rw [hL] at h1; cases h1
    | cons x t => rw [hL] at h1; simp at h1; rw [h1]; exact ⟨t, rfl⟩
theorem noOcc1 (a : List Nat) (c : Nat) : (occurrences ⟨a.toArray⟩ ⟨[c].toArray⟩ 0 a.length (a.length + 1)).isEmpty = !decide (c ∈ a) := by
  by_cases h : c ∈ a
  · obtain ⟨j, hj⟩ := List.getElem?_of_mem h
    rw [decide_eq_true h]
    have hex : ∃ i : Nat, a[i]? = some c ∧ ∀ k : Nat, k < i → a[k]? ≠ some c := by
      clear h
      induction j using Nat.strongRecOn with
      | _ j ih =>
        by_cases q : ∃ k, k < j ∧ a[k]? = some c
        · obtain ⟨k, q1, q2⟩ := q
          exact ih k q1 q2
        · exact ⟨j, hj, fun k hk e => q ⟨k, hk, e⟩⟩
    obtain ⟨i, h1, h2⟩ := hex
    obtain ⟨r, e⟩ := zjm (a := a) (c := c) (lo := 0) (hi := a.length) (lim := a.length + 1) (by omega) (Nat.zero_le i) (List.getElem?_eq_some_iff.mp h1).1 h1 fun k _ => h2 k
    rw [e]; rfl
  · rw [decide_eq_false h, zjn (by omega) (fun i _ _ e => h (List.mem_of_getElem? e) : ∀ i, 0 ≤ i → i < a.length → a[i]? ≠ some c)]
    rfl
noncomputable def firstAt (c : Nat) : List Nat → Option Nat
  | [] => none
  | x :: r => if x = c then some 0 else (firstAt c r).map (· + 1)
section
variable {pat u : List Nat} {p : Nat}
end
noncomputable abbrev Res := Option (List Slot × Out)
section
variable {cf : Nat → List D → Option D} {ρ ρ₁ ρ' : List Slot} {o : Out} {res : Res} {a b : S} {x c : X} {d : D} {i j k : Nat}
theorem zau : ex cf .skip ρ = some (ρ, .next) := zhX _
theorem R_brk : ex cf .brk ρ = some (ρ, .brk) := zj3 _
theorem zeG : ex cf .cont ρ = some (ρ, .cont) := zhZ _
noncomputable def after (cf : Nat → List D → Option D) (b : S) (ρ : List Slot) : Out → Res
  | .next => ex cf b ρ
  | o => some (ρ, o)
theorem R_seq (h : ex cf a ρ = some (ρ₁, o)) (h2 : after cf b ρ₁ o = res) : ex cf (.seq a b) ρ = res := by
  rw [zlw, h]
  cases o <;> exact h2
theorem zaf (h : ex cf b ρ = res) : after cf b ρ .next = res := h
theorem zbD : after cf b ρ .brk = some (ρ, .brk) := rfl
theorem zbm : after cf b ρ .cont = some (ρ, .cont) := rfl
theorem zan : after cf b ρ (.ret d) = some (ρ, .ret d) := rfl
theorem zag (h : ev1 cf x ρ = some d) (h2 : ρ.set i (.val d) = ρ') : ex cf (.assign i x) ρ = some (ρ', .next) := by
  rw [zcE]; rw [h, ← h2]; rfl
theorem zbf (h0 : noApp i ρ = true) {l : List D} (h : ev cf x ρ = some [.own l]) (h2 : ρ.set i (.own l) = ρ') : ex cf (.assignO i x) ρ = some (ρ', .next) := by
  rw [zcT]; rw [if_pos h0, h, ← h2]
theorem zbP {d1 d2 : D} (h : ev1 cf x ρ = some (.tup [d1, d2])) (h2 : (ρ.set i (.val d1)).set j (.val d2) = ρ') : ex cf (.assign2 i j x) ρ = some (ρ', .next) := by
  rw [zet]; rw [h, ← h2]
theorem zks {d1 d2 d3 : D} (h : ev1 cf x ρ = some (.tup [d1, d2, d3])) (h2 : ((ρ.set i (.val d1)).set j (.val d2)).set k (.val d3) = ρ') : ex cf (.assign3 i j k x) ρ = some (ρ', .next) := by
  rw [zes]; rw [h, ← h2]
theorem zcX {l : List D} (h : ownAt ρ j = some l) (h2 : ρ.set i (.app j) = ρ') : ex cf (.alias i j) ρ = some (ρ', .next) := by
  rw [zgC]; rw [h, ← h2]
theorem zbH {l : List D} (h : ev1 cf x ρ = some d) (h1 : ownAt ρ i = some l) (hl : l.length < lim) (h2 : ρ.set i (.own (l ++ [d])) = ρ') : ex cf (.append i x) ρ = some (ρ', .next) := by
  rw [zff]; rw [h, h1]; simp only [if_pos hl, h2]
theorem zbu {l : List D} (h0 : ρ[i]? = some (.app j)) (h : ev1 cf x ρ = some d) (h1 : ownAt ρ j = some l) (hl : l.length < lim) (h2 : ρ.set j (.own (l ++ [d])) = ρ') : ex cf (.appendVia i j x) ρ = some (ρ', .next) := by
  rw [zdg]; rw [h0, h, h1]; simp only [if_true, if_pos hl, h2]
theorem R_fz {l : List D} (h : ownAt ρ i = some l) (h2 : ρ.set i (.val (.list l)) = ρ') : ex cf (.fz i) ρ = some (ρ', .next) := by rw [ex_fz, h, ← h2]
noncomputable def branch (cf : Nat → List D → Option D) (a b : S) (ρ : List Slot) : Bool → Res
  | true => ex cf a ρ
  | false => ex cf b ρ
theorem R_ite {t : Bool} (h : evT cf c ρ = some t) (h2 : branch cf a b ρ t = res) : ex cf (.ite c a b) ρ = res := by
  rw [zj2]; rw [h]; cases t <;> exact h2
theorem R_tt (h : ex cf a ρ = res) : branch cf a b ρ true = res := h
theorem R_ff (h : ex cf b ρ = res) : branch cf a b ρ false = res := h
theorem zlh (h : evT cf c ρ = some true) : ex cf (.assert c) ρ = some (ρ, .next) := by rw [zfe]; rw [h]
theorem R_ret (h : ev1 cf x ρ = some d) : ex cf (.ret x) ρ = some (ρ, .ret d) := by rw [zj1]; rw [h]; rfl
theorem R_try (h : ex cf b ρ = res) : ex cf (.try_ b) ρ = res := by rw [zhW]; exact h
noncomputable def wOut (cf : Nat → List D → Option D) (c : X) (b : S) (n : Nat) (ρ : List Slot) : Out → Res
  | .next => whileGo (evT cf c) (ex cf b) n ρ
  | .cont => whileGo (evT cf c) (ex cf b) n ρ
  | .brk => some (ρ, .next)
  | .ret d => some (ρ, .ret d)
noncomputable def wTurn (cf : Nat → List D → Option D) (c : X) (b : S) (n : Nat) (ρ : List Slot) : Bool → Res
  | false => some (ρ, .next)
  | true => match ex cf b ρ with
    | some (ρ', o) => wOut cf c b n ρ' o
    | none => none
theorem zaP {n : Nat} {t : Bool} (h : evT cf c ρ = some t) (h2 : wTurn cf c b n ρ t = res) : whileGo (evT cf c) (ex cf b) (n + 1) ρ = res := by
  unfold whileGo
  rw [h]
  cases t with
  | false => exact h2
  | true =>
    unfold wTurn at h2
    rw [← h2]
    simp only
    cases ex cf b ρ with
    | none => rfl
    | some y =>
      obtain ⟨ρ', o⟩ := y
      cases o <;> rfl
theorem zcf (h : whileGo (evT cf c) (ex cf b) (99999 + 1) ρ = res) : ex cf (.while c b) ρ = res := by rw [zgA]; exact h
theorem zbO {n : Nat} : wTurn cf c b n ρ false = some (ρ, .next) := rfl
theorem R_wGo {n : Nat} (h : ex cf b ρ = some (ρ₁, o)) (h2 : wOut cf c b n ρ₁ o = res) : wTurn cf c b n ρ true = res := by
  unfold wTurn; rw [h]; exact h2
theorem zcg {n : Nat} (h : whileGo (evT cf c) (ex cf b) n ρ = res) : wOut cf c b n ρ .next = res := h
theorem zfl {n : Nat} : wOut cf c b n ρ .brk = some (ρ, .next) := rfl
theorem zfk {n : Nat} : wOut cf c b n ρ (.ret d) = some (ρ, .ret d) := rfl
noncomputable def fOut (cf : Nat → List D → Option D) (st : D → List Slot → Option (List Slot)) (b : S) (r : List D) (ρ : List Slot) : Out → Res
  | .next => forGo st (ex cf b) r ρ
  | .cont => forGo st (ex cf b) r ρ
  | .brk => some (ρ, .next)
  | .ret d => some (ρ, .ret d)
theorem zch {st : D → List Slot → Option (List Slot)} : forGo st (ex cf b) [] ρ = some (ρ, .next) := rfl
theorem zaK {st : D → List Slot → Option (List Slot)} {r : List D} {ρ₂ : List Slot} (h1 : st d ρ = some ρ₁) (h : ex cf b ρ₁ = some (ρ₂, o)) (h2 : fOut cf st b r ρ₂ o = res) : forGo st (ex cf b) (d :: r) ρ = res := by
  unfold forGo
  rw [h1]
  simp only [h]
  cases o <;> exact h2
theorem zbt {st : D → List Slot → Option (List Slot)} {r : List D} (h : forGo st (ex cf b) r ρ = res) : fOut cf st b r ρ .next = res := h
theorem zcu {st : D → List Slot → Option (List Slot)} {r : List D} (h : forGo st (ex cf b) r ρ = res) : fOut cf st b r ρ .cont = res := h
theorem zeF {st : D → List Slot → Option (List Slot)} {r : List D} : fOut cf st b r ρ .brk = some (ρ, .next) := rfl
theorem zeE {st : D → List Slot → Option (List Slot)} {r : List D} : fOut cf st b r ρ (.ret d) = some (ρ, .ret d) := rfl
theorem R_for {l : List D} (h : evI cf x ρ = some l) (h2 : forGo (put1 i) (ex cf b) l ρ = res) : ex cf (.forE i x b) ρ = res := by rw [zhY]; rw [h]; exact h2
theorem zkr {l : List D} (h : evI cf x ρ = some l) (h2 : forGo (put2 i j) (ex cf b) l ρ = res) : ex cf (.forE2 i j x b) ρ = res := by rw [zgB]; rw [h]; exact h2
theorem zjc : put1 i d ρ = some (ρ.set i (.val d)) := rfl
theorem zjb {d1 d2 : D} : put2 i j (.tup [d1, d2]) ρ = some ((ρ.set i (.val d1)).set j (.val d2)) := rfl
end
noncomputable def one (o : Option (List R)) : Option D := match o with
  | some [r] => r.fz
  | _ => none
noncomputable def theItems (o : Option (List R)) : Option (List D) := match o with
  | some [.val (.list l)] => some l
  | _ => none
section
variable {cf : Nat → List D → Option D} {ρ : List Slot} {x : X} {r : R}
theorem zcJ : ev1 cf x ρ = one (ev cf x ρ) := by
  unfold ev1
  generalize ev cf x ρ = o
  match o with
  | none => rfl
  | some [] => rfl
  | some [_] => rfl
  | some (_ :: _ :: _) => rfl
theorem zb4 : evT cf x ρ = truthR (ev cf x ρ) := by
  unfold evT
  generalize ev cf x ρ = o
  match o with
  | none => rfl
  | some _ => rfl
theorem zev : evI cf x ρ = theItems (ev cf x ρ) := by
  unfold evI
  generalize ev cf x ρ = o
  match o with
  | none => rfl
  | some [] => rfl
  | some [.val (.list _)] => rfl
  | some [.val .none] => rfl
  | some [.val (.bool _)] => rfl
  | some [.val (.int _)] => rfl
  | some [.val (.str _)] => rfl
  | some [.val (.tup _)] => rfl
  | some [.val (.tok _)] => rfl
  | some [.val (.ty _)] => rfl
  | some [.own _] => rfl
  | some [.bor _] => rfl
  | some (_ :: _ :: _) => rfl
theorem zbS : one (some [r]) = r.fz := rfl
theorem za1 {l : List D} : theItems (some [.val (.list l)]) = some l := rfl
theorem zaY : truthR (some [r]) = r.ds.truth := rfl
end
noncomputable def appOK (i : Nat) (s : Slot) : Bool := match s with | .app j => j != i | _ => true
theorem zcb (i : Nat) (ρ : List Slot) : noApp i ρ = ρ.all (appOK i) := rfl
theorem zaU {i : Nat} {d : D} : appOK i (.val d) = true := rfl
theorem zaV {i : Nat} {d : List D} : appOK i (.own d) = true := rfl
theorem zbl {i : Nat} : appOK i .unset = true := rfl
theorem zb6 {i j : Nat} : appOK i (.app j) = (j != i) := rfl
theorem eq_str (a b : List Nat) : opF .eq [.str a, .str b] = some (.val (.bool (decide (a = b)))) := rfl
theorem ne_str (a b : List Nat) : opF .ne [.str a, .str b] = some (.val (.bool (!decide (a = b)))) := rfl
theorem zcv {r : R} : turnD (some [.val (.bool true)]) (some [r]) = r.fz.map some := rfl
theorem o_len {l : List D} : opF .len [.list l] = some (.val (.int (l.length : Int))) := rfl
theorem o_sub {a b : Int} : opF .sub [.int a, .int b] = some (.val (.int (a - b))) := rfl
theorem o_neg {a : Int} : opF .neg [.int a] = some (.val (.int (-a))) := rfl
theorem zcA : opRange [.int 1, .int 0, .int (-1)] = some [.int 1] := rfl
theorem zdr {a b : D} : opF .index [.list [a, b], .int 0] = some (.val a) := rfl
theorem zdq {a b : D} : opF .index [.list [a, b], .int 1] = some (.val b) := rfl
theorem zdo {a : Nat} : opF .index [.str [a], .int 0] = some (.val (.str [a])) := rfl
theorem zdn {a : Nat} : opF .index [.str [a], .int (-1)] = some (.val (.str [a])) := rfl
theorem zcz {a b : Nat} : opF .index [.str [a, b], .int (-1)] = some (.val (.str [b])) := rfl
theorem ze8 {a : Nat} : opF .slice [.str [a], .none, .int (-1)] = some (.val (.str [])) := rfl
theorem ze7 {a b : Nat} : opF .slice [.str [a, b], .none, .int (-1)] = some (.val (.str [a])) := rfl
theorem o_sl1 {a : Nat} : opF .slice [.str [a], .int 1, .none] = some (.val (.str [])) := rfl
theorem zdt : opF .add [.str [], .str []] = some (.val (.str [])) := rfl
theorem zds {a : Nat} : opF .add [.str [a], .str []] = some (.val (.str [a])) := rfl
theorem zdp {a b : Nat} : opF .join [.str [45], .list [.str [a], .str [b]]] = some (.val (.str [a, 45, b])) := rfl
theorem zcC : opF .join [.str [45], .list [.str []]] = some (.val (.str [])) := rfl
theorem zcB {a : Nat} : opF .join [.str [45], .list [.str [a]]] = some (.val (.str [a])) := rfl
theorem P_add1 {p k : Nat} : opF .add [P p k, .int 1] = some (.val (P p (k + 1))) := P_add k 1
theorem zb1 (c : Nat) (b : List Nat) : opF .notin [.str [c], .str b] = some (.val (.bool (!decide (c ∈ b)))) := by
  show some (R.val (.bool (!Txt.contains ⟨b.toArray⟩ ⟨[c].toArray⟩))) = _
  rw [zkb]
theorem zcy {a : List Nat} {c : Nat} {d : List Nat} (h : decide (c ∈ a) = false) : opF .replace [.str a, .str [c], .str d] = some (.val (.str a)) := by
  show (if (occurrences ⟨a.toArray⟩ ⟨[c].toArray⟩ 0 a.length (a.length + 1)).isEmpty = true then some (R.val (.str a)) else Option.none) = _
  rw [noOcc1, h]; rfl
section
variable {pat u : List Nat} {p : Nat}
end
set_option genInjectivity false in
structure Fx0 (pat : List Nat) (I : Nat → D) (n : D) (u : List Nat) : Prop where
  i : ∀ k, k ≤ 100000 → opF .index [.str pat, I k] = (u[k]?).map fun c => .val (.str [c])
  l : ∀ k, opF .lt [I k, n] = some (.val (.bool (u[k]?).isSome))
  g : ∀ k, opF .ge [I k, n] = some (.val (.bool (!(u[k]?).isSome)))
  s : ∀ a b, a ≤ 100000 → b ≤ 100000 → opF .slice [.str pat, I a, I b] = some (.val (.str (cut u a b)))
  a1 : ∀ k, opF .add [I k, .int 1] = some (.val (I (k + 1)))
theorem At.fx0 {pat u : List Nat} {p : Nat} (H : At pat p u) : Fx0 pat (P p) (N pat) u := ⟨fun _ h => idx H h, fun _ => lt_N H, fun _ => ge_N H, fun _ _ h1 h2 => sl H h1 h2, fun _ => P_add1⟩
section
variable {pat v : List Nat} {I : Nat → D} {n : D} {ρ : List Slot} {cf : Nat → List D → Option D} {q : D} {r : List D} {j7 j8 j9 j10 j11 j12 j13 : Slot}
theorem zls {r : List D} {d : D} : opF .index [.list (r ++ [d]), .int (-1)] = some (.val d) := by
  show (if small (-1) = true then (match place (-1) (r ++ [d]).length with | some k => ((r ++ [d])[k]?).map R.val | none => none) else none) = _
  rw [if_pos (by decide)]
  unfold place
  rw [if_neg (by decide), if_pos (by simp; omega)]
  have e : (-1 + ((r ++ [d]).length : Int)).toNat = r.length := by simp; omega
  simp only [e]
  simp
theorem ze0 {r : List D} {d : D} : (r ++ [d]).isEmpty = false := by
  cases r <;> rfl
end
theorem zbQ {fns : Nat → Option Fn} {n f : Nat} {args : List D} {fn : Fn} {ρ : List Slot} {d : D} (h1 : fns f = some fn) (h2 : bindD fn args = some ρ) (h3 : ∃ ρ', ex (callF fns n) fn.body ρ = some (ρ', .ret d)) : callF fns (n + 1) f args = some d := by
  obtain ⟨ρ', h3⟩ := h3
  unfold callF
  rw [h1]
  simp only [h2, h3]
noncomputable def esc (c : Nat) : List Nat := if special.contains c then [92, c] else [c]
noncomputable def EscOK (cf : Nat → List D → Option D) : Prop := ∀ c, c < 128 → cf 0 [.str [c]] = some (.str (esc c))
theorem zg9 {c : Nat} (h : c < 128) : opF .translate [.str [c]] = some (.val (.str (esc c))) := by
  show (if c < 128 then some (R.val (.str (if special.contains c then [92, c] else [c]))) else none) = _
  rw [if_pos h]; rfl
theorem zj7 {fns : Nat → Option Fn} (h0 : fns 0 = some fn_escape) (m : Nat) : EscOK (callF fns (m + 1)) := by
  intro c hc
  refine zbQ h0 (ρ := [.val (.str [c])]) rfl ?_
  show ∃ ρ', ex (callF fns m) s_escape _ = _
  unfold s_escape
  refine ⟨_, R_seq (R_ite (t := true) rfl (R_tt (R_seq (R_ret (d := .str (esc c)) ?_) zan))) zan⟩
  simp only [zcJ, zaJ, zbo, zci, zbM, za5, zbp, za9, zbE, za8, zbq, zbk, zbs, za4, zbj, zbe, zbd, zbi, zbh, zaE, zaZ, zbg, List.getElem?_cons_zero, List.map_cons, List.map_nil, R.ds, zg9 hc, Option.map_some, zbS, R.fz]
noncomputable def GoodD (d : D) : Prop := opF .isnot [d, .tok 0] = some (.val (.bool true))
noncomputable def GoodL (r : List D) : Prop := ∀ d ∈ r, GoodD d ∨ d = .tok 0
noncomputable def isTok0 : D → Bool
  | .tok 0 => true
  | _ => false
theorem zjP {d : D} (h : isTok0 d = true) : d = .tok 0 := by
  unfold isTok0 at h
  split at h
  · rfl
  · cases h
noncomputable def pushA (r : List D) : Option D → List D
  | none => if r.getLast?.map isTok0 = some true then r else r ++ [.tok 0]
  | some d => r ++ [d]
theorem At.skip {pat u : List Nat} {p k : Nat} (H : At pat p u) (h : k ≤ u.length) : At pat (p + k) (u.drop k) := by
  refine ⟨?_, ?_, H.small⟩
  · rw [← List.drop_drop, H.drop]
  · have := H.len; omega
theorem P_skip {p k : Nat} : P (p + k) 0 = P p k := by unfold P; rfl
noncomputable def outA (r : List D) (as : List (List Nat × Option D)) : List D := as.foldl (fun r a => pushA r a.2) r
noncomputable def textA (as : List (List Nat × Option D)) : List Nat := as.flatMap (·.1)
theorem zim {r : List D} {a : Option D} (h : GoodL r) (ha : ∀ d, a = some d → GoodD d ∨ d = .tok 0) : GoodL (pushA r a) := by
  unfold pushA
  cases a with
  | none =>
    simp only
    split
    · exact h
    · intro d hd
      rcases List.mem_append.mp hd with hd | hd
      · exact h d hd
      · exact .inr (List.mem_singleton.mp hd)
  | some d0 =>
    intro d hd
    rcases List.mem_append.mp hd with hd | hd
    · exact h d hd
    · rw [List.mem_singleton.mp hd]; exact ha d0 rfl
theorem zjd {r : List D} {a : Option D} : (pushA r a).length ≤ r.length + 1 := by
  unfold pushA
  cases a with
  | none => simp only; split <;> simp
  | some d => simp
end Mine
end
section
open PySem
namespace Mine
noncomputable def fns08 : Nat → Option Fn := fun i => ([(0, fn_escape), (1, fn_translate8), (2, fn_fspath), (3, fn_get_sep), (4, fn_join), (6, fn_dirname), (7, fn_splitroot), (9, fn_normpath), (10, fn_abspath), (11, fn_relpath), (12, fn_commonprefix), (13, fn_commonpath), (14, fn_law_one), (15, fn_law_takes), (18, fn_law_drawn), (26, fn_law_quoted), (33, fn_law_told)] : List (Nat × Fn)).lookup i
end Mine
end
section
open PySem PySem.StrLaws PySem.Builtin PySem.Builtin.Str
namespace Mine
noncomputable def tBody8 : S := match s_translate8 with
  | .seq _ (.seq _ (.seq _ (.seq (.while _ b) _))) => b
  | _ => .skip
noncomputable def tCond8 : X := match s_translate8 with
  | .seq _ (.seq _ (.seq _ (.seq (.while c _) _))) => c
  | _ => .nil
inductive TState8 (pat : List Nat) (n : D) (q : D) (r : List D) (i : D) (ρ : List Slot) : Prop
  | mk (j7 j8 j9 j10 j11 j12 : Slot) (h0 : ρ = [.val (.str pat), .val (.tok 0), .val q, .own r, .app 3, .val i, .val n, j7, j8, j9, j10, j11, j12]) (h7 : appOK 10 j7 = true) (h8 : appOK 10 j8 = true) (h9 : appOK 10 j9 = true) (h10 : appOK 10 j10 = true) (h11 : appOK 10 j11 = true) (h12 : appOK 10 j12 = true)
section
variable {pat v : List Nat} {I : Nat → D} {n : D} {ρ : List Slot} {cf : Nat → List D → Option D} {q : D} {r : List D} {j7 j8 j9 j10 j11 j12 : Slot}
theorem zf4 (H : Fx0 pat I n (42 :: v)) (S : TState8 pat n q [] (I 0) ρ) : ∃ ρ', ex cf tBody8 ρ = some (ρ', .next) ∧ TState8 pat n q [.tok 0] (I 1) ρ' := by
  obtain ⟨hi, hl, hg, hs, ha1⟩ := H
  obtain ⟨j7, j8, j9, j10, j11, j12, rfl, h7, h8, h9, h10, h11, h12⟩ := S
  refine ⟨?w, ?h1, ?h2⟩
  case h1 =>
    unfold tBody8 s_translate8
    (repeat' (first | with_reducible (first | exact zau | exact R_brk | exact zeG | apply R_seq | exact zbD | exact zbm | exact zan | refine zaf ?_ | apply R_ite | refine R_tt ?_ | refine R_ff ?_ | apply zcf | apply zaP | exact zbO | apply R_wGo | refine zcg ?_ | exact zfl | exact zfk | apply R_for | exact zch | apply zaK | refine zbt ?_ | refine zcu ?_ | exact zeF | exact zeE | apply zag | apply zbP | apply zbu | apply zbH | apply zcX | apply R_ret | apply zbf | apply R_fz) | (((try simp (config := {failIfUnchanged := false}) only [zcJ, zb4, zev, zbS, za1, zaY, zaJ, zbo, zci, zbM, za5, zbp, za9, zbE, za8, zbq, zbk, zbs, za4, zbj, zbe, zbd, zbi, zbh, zaE, zaZ, zbg, fzAll, ownAt, Mine.R.ds, Mine.R.fz, Mine.D.truth, List.map_cons, List.map_nil, List.getElem?_cons_zero, List.getElem?_cons_succ, List.getElem?_nil, Option.map_some, Option.map_none, List.set_cons_zero, List.set_cons_succ, eq_str, ne_str, zb1, zcy, List.cons.injEq, and_true, and_false, true_and, false_and, Nat.reduceEqDiff, decide_true, decide_false, reduceCtorEq, Bool.not_true, Bool.not_false, Nat.reduceAdd, List.isEmpty_cons, List.isEmpty_nil, Nat.reduceLeDiff, Nat.zero_le, Option.isSome_some, Option.isSome_none, zcb, List.all_cons, List.all_nil, zaU, zaV, zbl, zb6, Bool.and_true, Bool.true_and, cut, List.drop_succ_cons, List.drop_zero, List.take_succ_cons, List.take_zero, Nat.reduceSub, firstAt, reduceIte, List.mem_cons, List.not_mem_nil, or_false, false_or, or_true, true_or, itemsOf, Option.bind_some, o_len, o_sub, o_neg, zcA, zdr, zdq, zdo, zdn, zcz, ze8, ze7, o_sl1, zdt, zds, zdp, zcC, zcB, List.nil_append, List.cons_append, List.length_cons, List.length_nil, Int.reduceSub, Int.reduceNeg, Int.reduceToNat, Int.toNat_zero, Int.toNat_one, Int.reduceAdd, Int.cast_ofNat_Int, Int.natCast_one, Int.natCast_zero, Int.zero_add, Nat.zero_add, List.eraseIdx_cons_succ, List.eraseIdx_cons_zero, Nat.reduceLT, compGo, zcv, repX, *]) <;> rfl)) | (show (_ : Nat) < lim; decide) | decide))
  case h2 =>
    refine ⟨_, _, _, _, _, _, rfl, ?_, ?_, ?_, ?_, ?_, ?_⟩ <;> first | exact zaU | exact zaV | assumption
theorem zf3 (H : Fx0 pat I n (42 :: v)) (S : TState8 pat n q (r ++ [.tok 0]) (I 0) ρ) : ∃ ρ', ex cf tBody8 ρ = some (ρ', .next) ∧ TState8 pat n q (r ++ [.tok 0]) (I 1) ρ' := by
  obtain ⟨hi, hl, hg, hs, ha1⟩ := H
  obtain ⟨j7, j8, j9, j10, j11, j12, rfl, h7, h8, h9, h10, h11, h12⟩ := S
  have t1 := ze0 (r := r) (d := .tok 0)
  have t2 := zls (r := r) (d := .tok 0)
  have t3 : opF .isnot [.tok 0, .tok 0] = some (.val (.bool false)) := rfl
  refine ⟨?w, ?h1, ?h2⟩
  case h1 =>
    unfold tBody8 s_translate8
    (repeat' (first | with_reducible (first | exact zau | exact R_brk | exact zeG | apply R_seq | exact zbD | exact zbm | exact zan | refine zaf ?_ | apply R_ite | refine R_tt ?_ | refine R_ff ?_ | apply zcf | apply zaP | exact zbO | apply R_wGo | refine zcg ?_ | exact zfl | exact zfk | apply R_for | exact zch | apply zaK | refine zbt ?_ | refine zcu ?_ | exact zeF | exact zeE | apply zag | apply zbP | apply zbu | apply zbH | apply zcX | apply R_ret | apply zbf | apply R_fz) | (((try simp (config := {failIfUnchanged := false}) only [zcJ, zb4, zev, zbS, za1, zaY, zaJ, zbo, zci, zbM, za5, zbp, za9, zbE, za8, zbq, zbk, zbs, za4, zbj, zbe, zbd, zbi, zbh, zaE, zaZ, zbg, fzAll, ownAt, Mine.R.ds, Mine.R.fz, Mine.D.truth, List.map_cons, List.map_nil, List.getElem?_cons_zero, List.getElem?_cons_succ, List.getElem?_nil, Option.map_some, Option.map_none, List.set_cons_zero, List.set_cons_succ, eq_str, ne_str, zb1, zcy, List.cons.injEq, and_true, and_false, true_and, false_and, Nat.reduceEqDiff, decide_true, decide_false, reduceCtorEq, Bool.not_true, Bool.not_false, Nat.reduceAdd, List.isEmpty_cons, List.isEmpty_nil, Nat.reduceLeDiff, Nat.zero_le, Option.isSome_some, Option.isSome_none, zcb, List.all_cons, List.all_nil, zaU, zaV, zbl, zb6, Bool.and_true, Bool.true_and, cut, List.drop_succ_cons, List.drop_zero, List.take_succ_cons, List.take_zero, Nat.reduceSub, firstAt, reduceIte, List.mem_cons, List.not_mem_nil, or_false, false_or, or_true, true_or, itemsOf, Option.bind_some, o_len, o_sub, o_neg, zcA, zdr, zdq, zdo, zdn, zcz, ze8, ze7, o_sl1, zdt, zds, zdp, zcC, zcB, List.nil_append, List.cons_append, List.length_cons, List.length_nil, Int.reduceSub, Int.reduceNeg, Int.reduceToNat, Int.toNat_zero, Int.toNat_one, Int.reduceAdd, Int.cast_ofNat_Int, Int.natCast_one, Int.natCast_zero, Int.zero_add, Nat.zero_add, List.eraseIdx_cons_succ, List.eraseIdx_cons_zero, Nat.reduceLT, compGo, zcv, repX, *]) <;> rfl)) | (show (_ : Nat) < lim; decide) | decide))
  case h2 =>
    refine ⟨_, _, _, _, _, _, rfl, ?_, ?_, ?_, ?_, ?_, ?_⟩ <;> first | exact zaU | exact zaV | assumption
theorem zf2 {d : D} (hd : opF .isnot [d, .tok 0] = some (.val (.bool true))) (hr : (r ++ [d]).length < lim) (H : Fx0 pat I n (42 :: v)) (S : TState8 pat n q (r ++ [d]) (I 0) ρ) : ∃ ρ', ex cf tBody8 ρ = some (ρ', .next) ∧ TState8 pat n q (r ++ [d] ++ [.tok 0]) (I 1) ρ' := by
  obtain ⟨hi, hl, hg, hs, ha1⟩ := H
  obtain ⟨j7, j8, j9, j10, j11, j12, rfl, h7, h8, h9, h10, h11, h12⟩ := S
  have t1 := ze0 (r := r) (d := d)
  have t2 := zls (r := r) (d := d)
  refine ⟨?w, ?h1, ?h2⟩
  case h1 =>
    unfold tBody8 s_translate8
    (repeat' (first | with_reducible (first | exact zau | exact R_brk | exact zeG | apply R_seq | exact zbD | exact zbm | exact zan | refine zaf ?_ | apply R_ite | refine R_tt ?_ | refine R_ff ?_ | apply zcf | apply zaP | exact zbO | apply R_wGo | refine zcg ?_ | exact zfl | exact zfk | apply R_for | exact zch | apply zaK | refine zbt ?_ | refine zcu ?_ | exact zeF | exact zeE | apply zag | apply zbP | apply zbu | apply zbH | apply zcX | apply R_ret | apply zbf | apply R_fz) | (((try simp (config := {failIfUnchanged := false}) only [zcJ, zb4, zev, zbS, za1, zaY, zaJ, zbo, zci, zbM, za5, zbp, za9, zbE, za8, zbq, zbk, zbs, za4, zbj, zbe, zbd, zbi, zbh, zaE, zaZ, zbg, fzAll, ownAt, Mine.R.ds, Mine.R.fz, Mine.D.truth, List.map_cons, List.map_nil, List.getElem?_cons_zero, List.getElem?_cons_succ, List.getElem?_nil, Option.map_some, Option.map_none, List.set_cons_zero, List.set_cons_succ, eq_str, ne_str, zb1, zcy, List.cons.injEq, and_true, and_false, true_and, false_and, Nat.reduceEqDiff, decide_true, decide_false, reduceCtorEq, Bool.not_true, Bool.not_false, Nat.reduceAdd, List.isEmpty_cons, List.isEmpty_nil, Nat.reduceLeDiff, Nat.zero_le, Option.isSome_some, Option.isSome_none, zcb, List.all_cons, List.all_nil, zaU, zaV, zbl, zb6, Bool.and_true, Bool.true_and, cut, List.drop_succ_cons, List.drop_zero, List.take_succ_cons, List.take_zero, Nat.reduceSub, firstAt, reduceIte, List.mem_cons, List.not_mem_nil, or_false, false_or, or_true, true_or, itemsOf, Option.bind_some, o_len, o_sub, o_neg, zcA, zdr, zdq, zdo, zdn, zcz, ze8, ze7, o_sl1, zdt, zds, zdp, zcC, zcB, List.nil_append, List.cons_append, List.length_cons, List.length_nil, Int.reduceSub, Int.reduceNeg, Int.reduceToNat, Int.toNat_zero, Int.toNat_one, Int.reduceAdd, Int.cast_ofNat_Int, Int.natCast_one, Int.natCast_zero, Int.zero_add, Nat.zero_add, List.eraseIdx_cons_succ, List.eraseIdx_cons_zero, Nat.reduceLT, compGo, zcv, repX, *]) <;> rfl)) | (show (_ : Nat) < lim; decide) | decide))
  case h2 =>
    refine ⟨_, _, _, _, _, _, rfl, ?_, ?_, ?_, ?_, ?_, ?_⟩ <;> first | exact zaU | exact zaV | assumption
theorem zgP {c : Nat} {e : List Nat} (c1 : ¬ c = 42) (c2 : ¬ c = 63) (c3 : ¬ c = 91) (hE : cf 0 [.str [c]] = some (.str e)) (hr : r.length < lim) (H : Fx0 pat I n (c :: v)) (S : TState8 pat n q r (I 0) ρ) : ∃ ρ', ex cf tBody8 ρ = some (ρ', .next) ∧ TState8 pat n q (r ++ [.str e]) (I 1) ρ' := by
  obtain ⟨hi, hl, hg, hs, ha1⟩ := H
  obtain ⟨j7, j8, j9, j10, j11, j12, rfl, h7, h8, h9, h10, h11, h12⟩ := S
  refine ⟨?w, ?h1, ?h2⟩
  case h1 =>
    unfold tBody8 s_translate8
    (repeat' (first | with_reducible (first | exact zau | exact R_brk | exact zeG | apply R_seq | exact zbD | exact zbm | exact zan | refine zaf ?_ | apply R_ite | refine R_tt ?_ | refine R_ff ?_ | apply zcf | apply zaP | exact zbO | apply R_wGo | refine zcg ?_ | exact zfl | exact zfk | apply R_for | exact zch | apply zaK | refine zbt ?_ | refine zcu ?_ | exact zeF | exact zeE | apply zag | apply zbP | apply zbu | apply zbH | apply zcX | apply R_ret | apply zbf | apply R_fz) | (((try simp (config := {failIfUnchanged := false}) only [zcJ, zb4, zev, zbS, za1, zaY, zaJ, zbo, zci, zbM, za5, zbp, za9, zbE, za8, zbq, zbk, zbs, za4, zbj, zbe, zbd, zbi, zbh, zaE, zaZ, zbg, fzAll, ownAt, Mine.R.ds, Mine.R.fz, Mine.D.truth, List.map_cons, List.map_nil, List.getElem?_cons_zero, List.getElem?_cons_succ, List.getElem?_nil, Option.map_some, Option.map_none, List.set_cons_zero, List.set_cons_succ, eq_str, ne_str, zb1, zcy, List.cons.injEq, and_true, and_false, true_and, false_and, Nat.reduceEqDiff, decide_true, decide_false, reduceCtorEq, Bool.not_true, Bool.not_false, Nat.reduceAdd, List.isEmpty_cons, List.isEmpty_nil, Nat.reduceLeDiff, Nat.zero_le, Option.isSome_some, Option.isSome_none, zcb, List.all_cons, List.all_nil, zaU, zaV, zbl, zb6, Bool.and_true, Bool.true_and, cut, List.drop_succ_cons, List.drop_zero, List.take_succ_cons, List.take_zero, Nat.reduceSub, firstAt, reduceIte, List.mem_cons, List.not_mem_nil, or_false, false_or, or_true, true_or, itemsOf, Option.bind_some, o_len, o_sub, o_neg, zcA, zdr, zdq, zdo, zdn, zcz, ze8, ze7, o_sl1, zdt, zds, zdp, zcC, zcB, List.nil_append, List.cons_append, List.length_cons, List.length_nil, Int.reduceSub, Int.reduceNeg, Int.reduceToNat, Int.toNat_zero, Int.toNat_one, Int.reduceAdd, Int.cast_ofNat_Int, Int.natCast_one, Int.natCast_zero, Int.zero_add, Nat.zero_add, List.eraseIdx_cons_succ, List.eraseIdx_cons_zero, Nat.reduceLT, compGo, zcv, repX, *]) <;> rfl)) | (show (_ : Nat) < lim; decide) | decide))
  case h2 =>
    refine ⟨_, _, _, _, _, _, rfl, ?_, ?_, ?_, ?_, ?_, ?_⟩ <;> first | exact zaU | exact zaV | assumption
theorem ziQ (H : Fx0 pat I n (91 :: 42 :: 93 :: v)) (hr : r.length < lim) (S : TState8 pat n q r (I 0) ρ) : ∃ ρ', ex cf tBody8 ρ = some (ρ', .next) ∧ TState8 pat n q (r ++ [.str [91, 42, 93]]) (I 3) ρ' := by
  obtain ⟨hi, hl, hg, hs, ha1⟩ := H
  obtain ⟨j7, j8, j9, j10, j11, j12, rfl, h7, h8, h9, h10, h11, h12⟩ := S
  refine ⟨?w, ?h1, ?h2⟩
  case h1 =>
    unfold tBody8 s_translate8
    (repeat' (first | with_reducible (first | exact zau | exact R_brk | exact zeG | apply R_seq | exact zbD | exact zbm | exact zan | refine zaf ?_ | apply R_ite | refine R_tt ?_ | refine R_ff ?_ | apply zcf | apply zaP | exact zbO | apply R_wGo | refine zcg ?_ | exact zfl | exact zfk | apply R_for | exact zch | apply zaK | refine zbt ?_ | refine zcu ?_ | exact zeF | exact zeE | apply zag | apply zbP | apply zbu | apply zbH | apply zcX | apply R_ret | apply zbf | apply R_fz) | (((try simp (config := {failIfUnchanged := false}) only [zcJ, zb4, zev, zbS, za1, zaY, zaJ, zbo, zci, zbM, za5, zbp, za9, zbE, za8, zbq, zbk, zbs, za4, zbj, zbe, zbd, zbi, zbh, zaE, zaZ, zbg, fzAll, ownAt, Mine.R.ds, Mine.R.fz, Mine.D.truth, List.map_cons, List.map_nil, List.getElem?_cons_zero, List.getElem?_cons_succ, List.getElem?_nil, Option.map_some, Option.map_none, List.set_cons_zero, List.set_cons_succ, eq_str, ne_str, zb1, zcy, List.cons.injEq, and_true, and_false, true_and, false_and, Nat.reduceEqDiff, decide_true, decide_false, reduceCtorEq, Bool.not_true, Bool.not_false, Nat.reduceAdd, List.isEmpty_cons, List.isEmpty_nil, Nat.reduceLeDiff, Nat.zero_le, Option.isSome_some, Option.isSome_none, zcb, List.all_cons, List.all_nil, zaU, zaV, zbl, zb6, Bool.and_true, Bool.true_and, cut, List.drop_succ_cons, List.drop_zero, List.take_succ_cons, List.take_zero, Nat.reduceSub, firstAt, reduceIte, List.mem_cons, List.not_mem_nil, or_false, false_or, or_true, true_or, itemsOf, Option.bind_some, o_len, o_sub, o_neg, zcA, zdr, zdq, zdo, zdn, zcz, ze8, ze7, o_sl1, zdt, zds, zdp, zcC, zcB, List.nil_append, List.cons_append, List.length_cons, List.length_nil, Int.reduceSub, Int.reduceNeg, Int.reduceToNat, Int.toNat_zero, Int.toNat_one, Int.reduceAdd, Int.cast_ofNat_Int, Int.natCast_one, Int.natCast_zero, Int.zero_add, Nat.zero_add, List.eraseIdx_cons_succ, List.eraseIdx_cons_zero, Nat.reduceLT, compGo, zcv, repX, *]) <;> rfl)) | (show (_ : Nat) < lim; decide) | decide))
  case h2 =>
    refine ⟨_, _, _, _, _, _, rfl, ?_, ?_, ?_, ?_, ?_, ?_⟩ <;> first | exact zaU | exact zaV | assumption
theorem ziR (H : Fx0 pat I n (91 :: 91 :: 93 :: v)) (hr : r.length < lim) (S : TState8 pat n q r (I 0) ρ) : ∃ ρ', ex cf tBody8 ρ = some (ρ', .next) ∧ TState8 pat n q (r ++ [.str [91, 92, 91, 93]]) (I 3) ρ' := by
  obtain ⟨hi, hl, hg, hs, ha1⟩ := H
  obtain ⟨j7, j8, j9, j10, j11, j12, rfl, h7, h8, h9, h10, h11, h12⟩ := S
  refine ⟨?w, ?h1, ?h2⟩
  case h1 =>
    unfold tBody8 s_translate8
    (repeat' (first | with_reducible (first | exact zau | exact R_brk | exact zeG | apply R_seq | exact zbD | exact zbm | exact zan | refine zaf ?_ | apply R_ite | refine R_tt ?_ | refine R_ff ?_ | apply zcf | apply zaP | exact zbO | apply R_wGo | refine zcg ?_ | exact zfl | exact zfk | apply R_for | exact zch | apply zaK | refine zbt ?_ | refine zcu ?_ | exact zeF | exact zeE | apply zag | apply zbP | apply zbu | apply zbH | apply zcX | apply R_ret | apply zbf | apply R_fz) | (((try simp (config := {failIfUnchanged := false}) only [zcJ, zb4, zev, zbS, za1, zaY, zaJ, zbo, zci, zbM, za5, zbp, za9, zbE, za8, zbq, zbk, zbs, za4, zbj, zbe, zbd, zbi, zbh, zaE, zaZ, zbg, fzAll, ownAt, Mine.R.ds, Mine.R.fz, Mine.D.truth, List.map_cons, List.map_nil, List.getElem?_cons_zero, List.getElem?_cons_succ, List.getElem?_nil, Option.map_some, Option.map_none, List.set_cons_zero, List.set_cons_succ, eq_str, ne_str, zb1, zcy, List.cons.injEq, and_true, and_false, true_and, false_and, Nat.reduceEqDiff, decide_true, decide_false, reduceCtorEq, Bool.not_true, Bool.not_false, Nat.reduceAdd, List.isEmpty_cons, List.isEmpty_nil, Nat.reduceLeDiff, Nat.zero_le, Option.isSome_some, Option.isSome_none, zcb, List.all_cons, List.all_nil, zaU, zaV, zbl, zb6, Bool.and_true, Bool.true_and, cut, List.drop_succ_cons, List.drop_zero, List.take_succ_cons, List.take_zero, Nat.reduceSub, firstAt, reduceIte, List.mem_cons, List.not_mem_nil, or_false, false_or, or_true, true_or, itemsOf, Option.bind_some, o_len, o_sub, o_neg, zcA, zdr, zdq, zdo, zdn, zcz, ze8, ze7, o_sl1, zdt, zds, zdp, zcC, zcB, List.nil_append, List.cons_append, List.length_cons, List.length_nil, Int.reduceSub, Int.reduceNeg, Int.reduceToNat, Int.toNat_zero, Int.toNat_one, Int.reduceAdd, Int.cast_ofNat_Int, Int.natCast_one, Int.natCast_zero, Int.zero_add, Nat.zero_add, List.eraseIdx_cons_succ, List.eraseIdx_cons_zero, Nat.reduceLT, compGo, zcv, repX, *]) <;> rfl)) | (show (_ : Nat) < lim; decide) | decide))
  case h2 =>
    refine ⟨_, _, _, _, _, _, rfl, ?_, ?_, ?_, ?_, ?_, ?_⟩ <;> first | exact zaU | exact zaV | assumption
end
set_option genInjectivity false in
structure TurnOK8 (q : D) (u : List Nat) (k : Nat) (r r' : List D) : Prop where
  pos : 1 ≤ k
  le : k ≤ u.length
  run : ∀ cf pat I n ρ, EscOK cf → Fx0 pat I n u → TState8 pat n q r (I 0) ρ → ∃ ρ', ex cf tBody8 ρ = some (ρ', .next) ∧ TState8 pat n q r' (I k) ρ'
inductive Tr8 (q : D) : List Nat → List D → List D → Prop
  | nil {r : List D} : Tr8 q [] r r
  | step {u : List Nat} {k : Nat} {r r' out : List D} : TurnOK8 q u k r r' → Tr8 q (u.drop k) r' out → Tr8 q u r out
theorem zga {cf : Nat → List D → Option D} {pat u : List Nat} {p : Nat} {q : D} {r : List D} {ρ : List Slot} (H : At pat p u) (S : TState8 pat (N pat) q r (P p 0) ρ) : evT cf tCond8 ρ = some (u[0]?).isSome := by
  obtain ⟨j7, j8, j9, j10, j11, j12, rfl, hj⟩ := S
  have hl := lt_N H (k := 0)
  generalize P p 0 = i at hl ⊢
  generalize N pat = n at hl ⊢
  unfold tCond8 s_translate8
  simp only [zb4, zaJ, zbo, zci, zbM, za5, zbp, za9, zbE, za8, zbq, zbk, zbs, za4, zbj, zbe, zbd, zbi, zbh, zaE, zaZ, zbg, List.getElem?_cons_succ, List.getElem?_cons_zero, Option.map_some, List.map_cons, List.map_nil, R.ds, hl, zaY, D.truth]
theorem tr_run8 {cf : Nat → List D → Option D} (hE : EscOK cf) {q : D} {pat u : List Nat} {r out : List D} (t : Tr8 q u r out) : ∀ (p fuel : Nat) (ρ : List Slot), u.length ≤ fuel → At pat p u → TState8 pat (N pat) q r (P p 0) ρ →
    ∃ ρ', whileGo (evT cf tCond8) (ex cf tBody8) (fuel + 1) ρ = some (ρ', .next) ∧ TState8 pat (N pat) q out (P pat.length 0) ρ' := by
  induction t with
  | nil =>
    intro p fuel ρ hf H S
    refine ⟨ρ, zaP (t := false) (by rw [zga H S]; rfl) zbO, ?_⟩
    have := H.len
    rw [this]
    exact S
  | @step u k r r' out T t ih =>
    intro p fuel ρ hf H S
    have hne : 1 ≤ u.length := Nat.le_trans T.pos T.le
    obtain ⟨ρ1, h1, S1⟩ := T.run cf pat (P p) (N pat) ρ hE H.fx0 S
    obtain ⟨fuel', rfl⟩ : ∃ f, fuel = f + 1 := ⟨fuel - 1, by omega⟩
    obtain ⟨ρ2, h2, S2⟩ := ih (p + k) fuel' ρ1 (by rw [List.length_drop]; have := T.pos; omega) (H.skip T.le) (by rw [P_skip]; exact S1)
    refine ⟨ρ2, zaP (t := true) ?_ (R_wGo h1 (zcg h2)), S2⟩
    rw [zga H S, zgW]
    exact congrArg some (decide_eq_true hne)
theorem zfn {fns : Nat → Option Fn} (h0 : fns 0 = some fn_escape) (h1 : fns 1 = some fn_translate8) {q : D} {u : List Nat} {out : List D} (t : Tr8 q u [] out) (hu : u.length ≤ 99999) (m : Nat) : callF fns (m + 2) 1 [.str u, .tok 0, q] = some (.list out) := by
  refine zbQ h1 (ρ := [.val (.str u), .val (.tok 0), .val q, .unset, .unset, .unset, .unset, .unset, .unset, .unset, .unset, .unset, .unset]) rfl ?_
  show ∃ ρ', ex (callF fns (m + 1)) s_translate8 _ = _
  have H : At u 0 u := ⟨rfl, Nat.zero_le _, by omega⟩
  have S : TState8 u (N u) q [] (P 0 0) [.val (.str u), .val (.tok 0), .val q, .own [], .app 3, .val (P 0 0), .val (N u), .unset, .unset, .unset, .unset, .unset, .unset] := ⟨_, _, _, _, _, _, rfl, rfl, rfl, rfl, rfl, rfl, rfl⟩
  obtain ⟨ρ2, h2, S2⟩ := tr_run8 (zj7 h0 m) t 0 99999 _ hu H S
  obtain ⟨j7, j8, j9, j10, j11, j12, rfl, hj⟩ := S2
  unfold s_translate8
  have eA : evT (callF fns (m + 1)) (.op .eq (.cons (.var 5) (.cons (.var 6) .nil))) [.val (.str u), .val (.tok 0), .val q, .own out, .app 3, .val (P u.length 0), .val (N u), j7, j8, j9, j10, j11, j12] = some true := by
    have e : opF .eq [P u.length 0, N u] = some (.val (.bool true)) := by
      show some (R.val (.bool (decide (((u.length + 0 : Nat) : Int) = (u.length : Int))))) = _
      rw [decide_eq_true (by simp)]
    generalize P u.length 0 = i at e ⊢
    generalize N u = n at e ⊢
    simp only [zb4, zaJ, zbo, zci, zbM, za5, zbp, za9, zbE, za8, zbq, zbk, zbs, za4, zbj, zbe, zbd, zbi, zbh, zaE, zaZ, zbg, List.getElem?_cons_succ, List.getElem?_cons_zero, Option.map_some, List.map_cons, List.map_nil, R.ds, e, zaY, D.truth]
  have eR : ∀ i n : D, ev1 (callF fns (m + 1)) (.var 3) [.val (.str u), .val (.tok 0), .val q, .val (.list out), .app 3, .val i, .val n, j7, j8, j9, j10, j11, j12] = some (.list out) := fun i n => by
    simp only [zcJ, zaJ, zbo, zci, zbM, za5, zbp, za9, zbE, za8, zbq, zbk, zbs, za4, zbj, zbe, zbd, zbi, zbh, zaE, zaZ, zbg, List.getElem?_cons_succ, List.getElem?_cons_zero, zbS, R.fz]
  exact ⟨_, R_seq (zbf (l := []) rfl rfl rfl) (zaf (R_seq (zcX (l := []) rfl rfl) (zaf (R_seq (zbP (d1 := P 0 0) (d2 := N u) rfl rfl) (zaf (R_seq (zcf h2) (zaf (R_seq (zlh eA) (zaf (R_seq (R_seq (R_fz (l := out) rfl rfl) (zaf (R_ret (eR _ _)))) zan))))))))))⟩
noncomputable def IsAtom8 (q : D) (t : List Nat) (a : Option D) : Prop := ∀ v r, GoodL r → r.length + 1 < lim → TurnOK8 q (t ++ v) t.length r (pushA r a)
noncomputable def AtomsOK8 (q : D) (as : List (List Nat × Option D)) : Prop := ∀ a ∈ as, IsAtom8 q a.1 a.2 ∧ ∀ d, a.2 = some d → GoodD d ∨ d = .tok 0
theorem zf6 {q : D} {v : List Nat} {out : List D} : ∀ {as : List (List Nat × Option D)} {r : List D}, AtomsOK8 q as → GoodL r → r.length + as.length + 1 < lim → Tr8 q v (outA r as) out → Tr8 q (textA as ++ v) r out
  | [], r, _, _, _, t => t
  | a :: as, r, h, hr, hl, t => by
    obtain ⟨h1, h2⟩ := h a List.mem_cons_self
    have h3 := h1 (textA as ++ v) r hr (by rw [List.length_cons] at hl; omega)
    have e : textA (a :: as) ++ v = a.1 ++ (textA as ++ v) := by unfold textA; rw [List.flatMap_cons, List.append_assoc]
    rw [e]
    refine .step h3 ?_
    rw [List.drop_left' rfl]
    refine zf6 (fun b hb => h b (List.mem_cons_of_mem _ hb)) (zim hr h2) ?_ t
    have := zjd (r := r) (a := a.2)
    rw [List.length_cons] at hl
    omega
theorem zdO {fns : Nat → Option Fn} (h0 : fns 0 = some fn_escape) (h1 : fns 1 = some fn_translate8) {q : D} {as : List (List Nat × Option D)} (h : AtomsOK8 q as) (hl : as.length ≤ 9999) (hu : (textA as).length ≤ 99999) (m : Nat) :
    callF fns (m + 2) 1 [.str (textA as), .tok 0, q] = some (.list (outA [] as)) := by
  refine zfn h0 h1 ?_ hu m
  have := zf6 (v := []) (out := outA [] as) h (fun d hd => nomatch hd) (r := []) (by unfold lim; simp; omega) .nil
  rwa [List.append_nil] at this
theorem zhq {q : D} : IsAtom8 q [42] none := fun v r hr hl => ⟨Nat.le_refl _, by simp, fun cf pat I n ρ hE H S => by
  rcases List.eq_nil_or_concat r with rfl | ⟨r', d, rfl⟩
  · have e : pushA [] none = [.tok 0] := rfl
    rw [e]
    exact zf4 H S
  · rw [List.concat_eq_append] at *
    unfold pushA
    simp only [List.getLast?_append, List.getLast?_singleton, Option.some_or, Option.map_some, Option.some.injEq]
    by_cases hd : isTok0 d = true
    · have := zjP hd
      subst this
      rw [if_pos hd]
      exact zf3 H S
    · rw [if_neg hd]
      exact zf2 ((hr d (by simp)).resolve_right fun e => hd (by rw [e]; rfl)) (by omega) H S⟩
theorem zbC {q : D} {c : Nat} (c1 : ¬ c = 42) (c2 : ¬ c = 63) (c3 : ¬ c = 91) (hc : c < 128) : IsAtom8 q [c] (some (.str (esc c))) := fun v r hr hl => ⟨Nat.le_refl _, by simp, fun cf pat I n ρ hE H S => zgP c1 c2 c3 (hE c hc) (by omega) H S⟩
theorem zkm {q : D} : IsAtom8 q [91, 42, 93] (some (.str [91, 42, 93])) := fun v r hr hl => ⟨by decide, by simp, fun cf pat I n ρ hE H S => ziQ H (Nat.lt_of_succ_lt hl) S⟩
theorem zkn {q : D} : IsAtom8 q [91, 91, 93] (some (.str [91, 92, 91, 93])) := fun v r hr hl => ⟨by decide, by simp, fun cf pat I n ρ hE H S => ziR H (Nat.lt_of_succ_lt hl) S⟩
theorem zdG {a : List Nat} {c : Nat} : opF .startswith [.str a, .str [c]] = some (.val (.bool (decide (a.head? = some c)))) := by
  show some (R.val (.bool (Txt.startswith ⟨a.toArray⟩ ⟨[c].toArray⟩))) = _
  rw [zgT]
theorem zc5 {a b : List Nat} (h : a.length + b.length ≤ lim) : opF .add [.str a, .str b] = some (.val (.str (a ++ b))) := by
  show (if a.length + b.length ≤ lim then some (R.val (.str (a ++ b))) else none) = _
  rw [if_pos h]
section
variable {fns : Nat → Option Fn}
theorem zb3 (h2 : fns 2 = some fn_fspath) (m : Nat) (l : List Nat) : callF fns (m + 1) 2 [.str l] = some (.str l) := by
  refine zbQ h2 (ρ := [.val (.str l), .unset, .unset, .unset]) rfl ?_
  show ∃ ρ', ex (callF fns m) s_fspath _ = _
  unfold s_fspath
  exact ⟨_, R_seq (zag (d := .ty "str") rfl rfl) (zaf (R_seq (R_ite (t := true) rfl (R_tt (R_seq (R_ret (d := .str l) rfl) zan))) zan))⟩
theorem ziA (h3 : fns 3 = some fn_get_sep) (m : Nat) (l : List Nat) : callF fns (m + 1) 3 [.str l] = some (.str [47]) := by
  refine zbQ h3 (ρ := [.val (.str l)]) rfl ?_
  show ∃ ρ', ex (callF fns m) s_get_sep _ = _
  unfold s_get_sep
  exact ⟨_, R_seq (R_ite (t := false) rfl (R_ff (R_seq (R_ret (d := .str [47]) rfl) zan))) zan⟩
end
section
variable {cf : Nat → List D → Option D}
end
section
variable {fns : Nat → Option Fn}
end
theorem zaG {n : Nat} (h : n ≤ 1000000) : small (n : Int) = true := by
  unfold small
  simp only [Bool.and_eq_true, decide_eq_true_eq]
  omega
theorem zbG {k n : Nat} (h : k ≤ n) : clip (k : Int) n = k := by
  unfold clip
  rw [if_neg (by omega)]
  split <;> omega
theorem o_to {x y : List Nat} (h : x.length ≤ 1000000) : opF .slice [.str (x ++ y), .none, .int (x.length : Int)] = some (.val (.str x)) := by
  have e : bound (.int (x.length : Int)) (x ++ y).length (x ++ y).length = some x.length := by
    show (if small (x.length : Int) = true then some (clip (x.length : Int) (x ++ y).length) else none) = _
    rw [if_pos (zaG h), zbG (by simp)]
  show (match bound .none 0 (x ++ y).length, bound (.int (x.length : Int)) (x ++ y).length (x ++ y).length with
    | some lo, some hi => some (R.val (.str (cut (x ++ y) lo hi)))
    | _, _ => none) = _
  rw [e]
  show some (R.val (.str (cut (x ++ y) 0 x.length))) = _
  congr 3
  unfold cut
  simp
theorem o_from {x y : List Nat} (h : x.length ≤ 1000000) : opF .slice [.str (x ++ y), .int (x.length : Int), .none] = some (.val (.str y)) := by
  have e : bound (.int (x.length : Int)) 0 (x ++ y).length = some x.length := by
    show (if small (x.length : Int) = true then some (clip (x.length : Int) (x ++ y).length) else none) = _
    rw [if_pos (zaG h), zbG (by simp)]
  show (match bound (.int (x.length : Int)) 0 (x ++ y).length, bound .none (x ++ y).length (x ++ y).length with
    | some lo, some hi => some (R.val (.str (cut (x ++ y) lo hi)))
    | _, _ => none) = _
  rw [e]
  show some (R.val (.str (cut (x ++ y) x.length (x ++ y).length))) = _
  congr 3
  unfold cut
  simp
theorem zkE {n : Nat} {c : Nat} : rep [c] (n : Int) = List.replicate n c := by
  unfold rep
  rw [Int.toNat_natCast]
  induction n with
  | zero => rfl
  | succ n ih => rw [List.replicate_succ, List.flatten_cons, ih]; rfl
theorem zkQ {c n : Nat} (h : n ≤ lim) : opF .mul [.str [c], .int (n : Int)] = some (.val (.str (List.replicate n c))) := by
  show (if (small (n : Int) && decide (([c] : List Nat).length * (n : Int).toNat ≤ lim)) = true then some (R.val (.str (rep [c] (n : Int)))) else none) = _
  rw [if_pos, zkE]
  rw [Bool.and_eq_true, decide_eq_true_eq, Int.toNat_natCast]
  exact ⟨zaG h, by simpa using h⟩
theorem zhD {a : List Nat} {c : Nat} : opF .rstrip [.str a, .str [c]] = some (.val (.str (a.reverse.dropWhile fun x => x == c).reverse)) := by
  show some (R.val (.str (Txt.rstripChars ⟨a.toArray⟩ ⟨[c].toArray⟩).cps.toList)) = _
  rw [rstrip1]
theorem zkS {a : List Nat} {c : Nat} : opF .lstrip [.str a, .str [c]] = some (.val (.str (a.dropWhile fun x => x == c))) := by
  show some (R.val (.str (Txt.lstripChars ⟨a.toArray⟩ ⟨[c].toArray⟩).cps.toList)) = _
  rw [lstrip1]
theorem zio {x y : List Nat} {c : Nat} (h : c ∉ y) : opF .rfind [.str (x ++ c :: y), .str [c]] = some (.val (.int (x.length : Int))) := by
  show some (R.val (.int (Txt.rfind ⟨(x ++ c :: y).toArray⟩ ⟨[c].toArray⟩))) = _
  rw [zkD h]
noncomputable def strip0 (x : List Nat) : List Nat := if x = List.replicate x.length 47 then x else (x.reverse.dropWhile fun c => c == 47).reverse
section
variable {fns : Nat → Option Fn}
end
theorem o_mod {n k : Nat} (hk : k ≠ 0) : opF .mod [.int (n : Int), .int (k : Int)] = some (.val (.int ((n % k : Nat) : Int))) := by
  show (if (k : Int) = 0 then none else some (R.val (.int (Int.fmod (n : Int) (k : Int))))) = _
  rw [if_neg (by omega), Int.fmod_eq_emod_of_nonneg _ (by omega)]
  rfl
theorem o_div {n k : Nat} (hk : k ≠ 0) : opF .fdiv [.int (n : Int), .int (k : Int)] = some (.val (.int ((n / k : Nat) : Int))) := by
  show (if (k : Int) = 0 then none else some (R.val (.int (Int.fdiv (n : Int) (k : Int))))) = _
  rw [if_neg (by omega), Int.fdiv_eq_ediv_of_nonneg _ (by omega)]
  rfl
theorem o_gt0 {n : Nat} : opF .gt [.int (n : Int), .int 0] = some (.val (.bool (decide (0 < n)))) := by
  show some (R.val (.bool (decide ((0 : Int) < (n : Int))))) = _
  congr 4
  simp only [eq_iff_iff]
  omega
theorem zfC {l : List D} {k : Nat} {d : D} (h : l[k]? = some d) (hk : k ≤ 1000000) : opF .index [.tup l, .int (k : Int)] = some (.val d) := by
  show (if small (k : Int) = true then (match place (k : Int) l.length with | some k => (l[k]?).map R.val | none => none) else none) = _
  rw [if_pos (zaG hk)]
  unfold place
  have : k < l.length := (List.getElem?_eq_some_iff.mp h).1
  rw [if_pos (by omega), if_pos (by omega)]
  simp only [Int.toNat_natCast, h, Option.map_some]
theorem zbK {l : List D} {k : Nat} {d : D} (h : l[k]? = some d) (hk : k ≤ 1000000) : opF .index [.list l, .int (k : Int)] = some (.val d) := by
  show (if small (k : Int) = true then (match place (k : Int) l.length with | some k => (l[k]?).map R.val | none => none) else none) = _
  rw [if_pos (zaG hk)]
  unfold place
  have : k < l.length := (List.getElem?_eq_some_iff.mp h).1
  rw [if_pos (by omega), if_pos (by omega)]
  simp only [Int.toNat_natCast, h, Option.map_some]
theorem zdf {cf : Nat → List D → Option D} {i : Nat} {b : S} {I : Nat → List Slot → Prop} {a : Nat} : ∀ {m : Nat} {ρ : List Slot}, I a ρ → (∀ k ρ, a ≤ k → k < a + m → I k ρ → ∃ ρ' o, ex cf b (ρ.set i (.val (.int (k : Int)))) = some (ρ', o) ∧ (o = .next ∨ o = .cont) ∧ I (k + 1) ρ') →
    ∃ ρ', forGo (put1 i) (ex cf b) ((List.range' a m).map fun (k : Nat) => .int (k : Int)) ρ = some (ρ', .next) ∧ I (a + m) ρ' := by
  intro m
  induction m generalizing a with
  | zero => intro ρ h0 _; exact ⟨ρ, rfl, h0⟩
  | succ m ih =>
    intro ρ h0 hs
    obtain ⟨ρ1, o, e1, ho, h1⟩ := hs a ρ (Nat.le_refl _) (by omega) h0
    obtain ⟨ρ2, e2, h2⟩ := ih (a := a + 1) h1 fun k ρ hk1 hk2 hI => hs k ρ (by omega) (by omega) hI
    refine ⟨ρ2, ?_, by rw [show a + (m + 1) = a + 1 + m by omega]; exact h2⟩
    rw [List.range'_succ, List.map_cons]
    refine zaK (st := put1 i) rfl e1 ?_
    rcases ho with rfl | rfl
    · exact zbt e2
    · exact zcu e2
theorem ziN {n a : Nat} : (upTo n (a : Int) 1).map D.int = (List.range' a n).map fun (k : Nat) => .int (k : Int) := by
  unfold upTo
  rw [List.map_map, List.range'_eq_map_range, List.map_map]
  apply List.map_congr_left
  intro k _
  simp
theorem zja {n : Nat} (h : n ≤ 1000000) : opRange [.int (n : Int)] = some ((List.range' 0 n).map fun (k : Nat) => .int (k : Int)) := by
  show (if (small (n : Int) && decide ((n : Int) ≤ 1000000)) = true then some (rangeL 0 (n : Int)) else none) = _
  rw [if_pos (by rw [zaG h]; exact decide_eq_true (Int.ofNat_le.mpr h))]
  unfold rangeL
  have : ((n : Int) - 0).toNat = n := by rw [Int.sub_zero]; rfl
  rw [this]
  exact congrArg some (ziN (a := 0))
theorem zi9 {a n : Nat} (ha : a ≤ 1000000) (h : n ≤ 1000000) : opRange [.int (a : Int), .int (n : Int)] = some ((List.range' a (n - a)).map fun (k : Nat) => .int (k : Int)) := by
  show (if (small (a : Int) && small (n : Int) && decide ((n : Int) - (a : Int) ≤ 1000000)) = true then some (rangeL (a : Int) (n : Int)) else none) = _
  rw [if_pos (by rw [zaG h, zaG ha]; exact decide_eq_true (Int.le_trans (Int.sub_le_self _ (Int.natCast_nonneg a)) (Int.ofNat_le.mpr h)))]
  unfold rangeL
  have : ((n : Int) - (a : Int)).toNat = n - a := Int.toNat_sub n a
  rw [this]
  exact congrArg some ziN
theorem o_take1 {t : List Nat} : opF .slice [.str t, .none, .int 1] = some (.val (.str (t.take 1))) := by
  have e : bound (.int 1) t.length t.length = some (clip 1 t.length) := rfl
  show (match bound .none 0 t.length, bound (.int 1) t.length t.length with
    | some lo, some hi => some (R.val (.str (cut t lo hi)))
    | _, _ => none) = _
  rw [e]
  show some (R.val (.str (cut t 0 (clip 1 t.length)))) = _
  congr 3
  cases t with
  | nil => rfl
  | cons c t =>
    have : clip 1 (c :: t).length = 1 := zbG (k := 1) (by simp)
    rw [this]; rfl
theorem take1_head {t : List Nat} : t.take 1 = [47] ↔ t.head? = some 47 := by
  cases t <;> simp
theorem zjp {a b : List D} (h : a.length + b.length ≤ lim) : opF .add [.list a, .list b] = some (.own (a ++ b)) := by
  show (if a.length + b.length ≤ lim then some (R.own (a ++ b)) else none) = _
  rw [if_pos h]
theorem zfD {l : List D} {n : Nat} (h : n ≤ 1000000) (hl : n ≤ l.length) : opF .slice [.list l, .none, .int (n : Int)] = some (.own (l.take n)) := by
  have e : bound (.int (n : Int)) l.length l.length = some (clip (n : Int) l.length) := by
    show (if small (n : Int) = true then some (clip (n : Int) l.length) else none) = _
    rw [if_pos (zaG h)]
  show (match bound .none 0 l.length, bound (.int (n : Int)) l.length l.length with
    | some lo, some hi => some (R.own (cut l lo hi))
    | _, _ => none) = _
  rw [e]
  show some (R.own (cut l 0 (clip (n : Int) l.length))) = _
  rw [zbG hl]; rfl
theorem zld {cf : Nat → List D → Option D} {i : Nat} {it c e : X} {ρ : List Slot} {items l : List D} (h : ev cf it ρ = some [.val (.list items)]) (hg : compGo (fun d => turnD (ev cf c (ρ.set i (.val d))) (ev cf e (ρ.set i (.val d)))) items = some l) :
    ev cf (.comp i it c e) ρ = some [.own l] := by
  rw [zbj]
  simp only [h, hg, Option.map_some]
theorem zjX {cf : Nat → List D → Option D} {i : Nat} {b : S} {I : List Slot → Prop} : ∀ {l : List D} {ρ : List Slot}, I ρ → (∀ d ∈ l, ∀ ρ, I ρ → ∃ ρ', ex cf b (ρ.set i (.val d)) = some (ρ', .next) ∧ I ρ') →
    ∃ ρ', forGo (put1 i) (ex cf b) l ρ = some (ρ', .next) ∧ I ρ'
  | [], ρ, h, _ => ⟨ρ, rfl, h⟩
  | d :: l, ρ, h, hs => by
    obtain ⟨ρ1, e1, h1⟩ := hs d List.mem_cons_self ρ h
    obtain ⟨ρ2, e2, h2⟩ := zjX (l := l) h1 fun d hd => hs d (List.mem_cons_of_mem _ hd)
    exact ⟨ρ2, zaK (st := put1 i) rfl e1 (zbt e2), h2⟩
theorem zkG {α β : Type} (f : α → β) (l : List α) (lo hi st : Option Int) : pick (l.map f) lo hi st = (pick l lo hi st).map f := by
  unfold pick
  rw [List.length_map, List.map_filterMap]
  congr 1
  funext k
  rw [List.getElem?_map]
theorem ze1 : ∀ l : List Int, toInts (l.map D.int) = some l
  | [] => rfl
  | i :: l => by
    rw [List.map_cons]
    unfold toInts
    rw [ze1 l]; rfl
theorem o_sumi {l : List Int} : opF .sum [.list (l.map .int)] = some (.val (.int l.sum)) := by
  show (toInts (l.map D.int)).map (fun is => R.val (.int is.sum)) = _
  rw [ze1]; rfl
theorem zlt {i : Int} : opF .abs [.int i] = some (.val (.int (i.natAbs : Int))) := rfl
theorem zkP {ns : List Int} {k n : Nat} (hk : k ≤ 1000000) (hn : n ≤ 1000000) (h0 : n ≠ 0) : opF .slice3 [.list (ns.map .int), .int (k : Int), .none, .int (n : Int)] = some (.own ((pick ns (some (k : Int)) none (some (n : Int))).map .int)) := by
  have e : partD (.int (k : Int)) = some (some (k : Int)) := by
    show (if small (k : Int) = true then some (some (k : Int)) else none) = _
    rw [if_pos (zaG hk)]
  show (match partD (.int (k : Int)), partD .none with
    | some lo, some hi => if (n : Int) ≠ 0 ∧ small (n : Int) then some (R.own (pick (ns.map D.int) lo hi (some (n : Int)))) else none
    | _, _ => none) = _
  rw [e]
  show (if (n : Int) ≠ 0 ∧ small (n : Int) then some (R.own (pick (ns.map D.int) (some (k : Int)) none (some (n : Int)))) else none) = _
  rw [if_pos ⟨by omega, zaG hn⟩, zkG]
section
variable {cf : Nat → List D → Option D} {ρ : List Slot} {a b c : R}
theorem zao {x xs : X} {rs : List R} (h1 : ev cf x ρ = some [a]) (h2 : ev cf xs ρ = some rs) : ev cf (.cons x xs) ρ = some (a :: rs) := by rw [za5, h1, h2]; rfl
theorem V_op {f : Op} {xs : X} {rs : List R} {r : R} (h1 : ev cf xs ρ = some rs) (h : opF f (rs.map R.ds) = some r) : ev cf (.op f xs) ρ = some [r] := by rw [zci, h1]; simp only [h]; rfl
theorem V_op1 {f : Op} {x : X} {r : R} (h1 : ev cf x ρ = some [a]) (h : opF f [a.ds] = some r) : ev cf (.op f (.cons x .nil)) ρ = some [r] := V_op (zao h1 rfl) h
theorem V_op2 {f : Op} {x y : X} {r : R} (h1 : ev cf x ρ = some [a]) (h2 : ev cf y ρ = some [b]) (h : opF f [a.ds, b.ds] = some r) : ev cf (.op f (.cons x (.cons y .nil))) ρ = some [r] := V_op (zao h1 (zao h2 rfl)) h
theorem V_op3 {f : Op} {x y z : X} {r : R} (h1 : ev cf x ρ = some [a]) (h2 : ev cf y ρ = some [b]) (h3 : ev cf z ρ = some [c]) (h : opF f [a.ds, b.ds, c.ds] = some r) : ev cf (.op f (.cons x (.cons y (.cons z .nil)))) ρ = some [r] := V_op (zao h1 (zao h2 (zao h3 rfl))) h
theorem zaO {f : Nat} {xs : X} {rs : List R} {ds : List D} {d : D} (h1 : ev cf xs ρ = some rs) (h2 : fzAll rs = some ds) (h : cf f ds = some d) : ev cf (.call f xs) ρ = some [.val d] := by rw [zbk, h1]; simp only [h2, h]; rfl
theorem zlg {x y : X} (h1 : ev cf x ρ = some [.val (.bool false)]) : ev cf (.and x y) ρ = some [.val (.bool false)] := by rw [za9, h1]; rfl
theorem zlf {x y : X} (h1 : ev cf x ρ = some [.val (.bool true)]) (h2 : ev cf y ρ = some [a]) : ev cf (.and x y) ρ = some [a] := by rw [za9, h1]; exact h2
theorem V_and {x y : X} {p q : Bool} (h1 : ev cf x ρ = some [.val (.bool p)]) (h2 : p = true → ev cf y ρ = some [.val (.bool q)]) : ev cf (.and x y) ρ = some [.val (.bool (p && q))] := by
  cases p
  · exact zlg h1
  · exact zlf h1 (h2 rfl)
theorem zck {x : X} {d : D} {l : List D} (h1 : ev cf x ρ = some [a]) (h2 : a.fz = some d) (h3 : itemsOf d = some l) : ev cf (.seqI x) ρ = some [.val (.list l)] := by rw [zbh, h1]; simp only [h2, h3]; rfl
theorem zcG {xs : X} {rs : List R} {l : List D} (h1 : ev cf xs ρ = some rs) (h : opRange (rs.map R.ds) = some l) : ev cf (.rangeI xs) ρ = some [.val (.list l)] := by rw [zaE, h1]; simp only [h]; rfl
theorem V_list1 {x : X} {d : D} (h1 : ev cf x ρ = some [a]) (h2 : a.fz = some d) : ev cf (.list (.cons x .nil)) ρ = some [.own [d]] := by
  rw [za4, zao h1 rfl]
  simp only [fzAll, h2]
  rfl
theorem E_of {x : X} {d : D} (h : ev cf x ρ = some [a]) (h2 : a.fz = some d) : ev1 cf x ρ = some d := by rw [zcJ, h]; exact h2
theorem T_of {x : X} {t : Bool} (h : ev cf x ρ = some [.val (.bool t)]) : evT cf x ρ = some t := by rw [zb4, h]; rfl
theorem I_of {x : X} {l : List D} (h : ev cf x ρ = some [.val (.list l)]) : evI cf x ρ = some l := by rw [zev, h]; rfl
theorem V_v {ρ : List Slot} {i : Nat} {s : Slot} {d : D} (e : ρ[i]? = some s) (h : s = .val d) : ev cf (.var i) ρ = some [.val d] := by rw [zbo, e, h]
theorem V_or {x y : X} {p q : Bool} (h1 : ev cf x ρ = some [.val (.bool p)]) (h2 : ev cf y ρ = some [.val (.bool q)]) : ev cf (.or x y) ρ = some [.val (.bool (p || q))] := by
  rw [zbE, h1]
  cases p
  · exact h2
  · rfl
theorem V_not {x : X} {p : Bool} (h1 : ev cf x ρ = some [.val (.bool p)]) : ev cf (.not x) ρ = some [.val (.bool (!p))] := by
  rw [za8, h1]; rfl
theorem zht {x y : X} {d e : D} (h1 : ev cf x ρ = some [.val d]) (h2 : ev cf y ρ = some [.val e]) : ev cf (.list (.cons x (.cons y .nil))) ρ = some [.own [d, e]] := by
  rw [za4, zao h1 (zao h2 rfl)]; rfl
end
section
variable {cf : Nat → List D → Option D} {ρ : List Slot} {a b c : R}
theorem zce {α : Type} {f : D → Option (Option D)} {g v : α → D} {p : α → Bool} : ∀ {l : List α}, (∀ a ∈ l, f (g a) = some (if p a then some (v a) else none)) → compGo f (l.map g) = some ((l.filter p).map v)
  | [], _ => rfl
  | a :: l, h => by
    rw [List.map_cons]
    unfold compGo
    rw [h a List.mem_cons_self, zce fun b hb => h b (List.mem_cons_of_mem _ hb)]
    cases e : p a
    · rw [List.filter_cons_of_neg (by rw [e]; exact Bool.false_ne_true)]; rfl
    · rw [List.filter_cons_of_pos e]; rfl
theorem zfm {p : Bool} {x : Option (List R)} {y : Option (List R)} {d : D} {r : R} (h1 : x = some [.val (.bool p)]) (h2 : p = true → y = some [r]) (h3 : r.fz = some d) : turnD x y = some (if p then some d else none) := by
  rw [h1]
  cases p
  · rfl
  · rw [h2 rfl]
    show r.fz.map some = _
    rw [h3]; rfl
theorem zh7 {α : Type} {i : Nat} {it cd e : X} {l : List α} {g v : α → D} {p : α → Bool} (h : ev cf it ρ = some [.val (.list (l.map g))])
    (hg : ∀ a ∈ l, turnD (ev cf cd (ρ.set i (.val (g a)))) (ev cf e (ρ.set i (.val (g a)))) = some (if p a then some (v a) else none)) : ev cf (.comp i it cd e) ρ = some [.own ((l.filter p).map v)] :=
  zld h (zce hg)
end
noncomputable abbrev Nm := List (List Nat)
theorem zfi {α β : Type} {l : List α} {f g : α → β} (h : l.map f = l.map g) {a : α} (ha : a ∈ l) : f a = g a := List.map_inj_left.mp h a ha
noncomputable def upd (f : Nat → Slot) (i : Nat) (v : Slot) : Nat → Slot := fun k => if k = i then v else f k
noncomputable def NA (f : Nat → Slot) : Prop := ∀ i k, appOK k (f i) = true
theorem NA.upd {f : Nat → Slot} (h : NA f) {i : Nat} {v : Slot} (hv : ∀ k, appOK k v = true) : NA (upd f i v) := by
  intro j k
  unfold Mine.upd
  split
  · exact hv k
  · exact h j k
section
variable {cf : Nat → List D → Option D} {f : Nat → Slot}
theorem zeD {ρ : List Slot} {α : Type} {i : Nat} {it e : X} {l : List α} {g v : α → D} (h : ev cf it ρ = some [.val (.list (l.map g))])
    (hg : ∀ a ∈ l, ∃ r, ev cf e (ρ.set i (.val (g a))) = some [r] ∧ r.fz = some (v a)) : ev cf (.comp i it (.const (.bool true)) e) ρ = some [.own (l.map v)] := by
  have := zh7 (cf := cf) (i := i) (cd := .const (.bool true)) (e := e) (p := fun _ => true) (v := v) h fun a ha => by
    obtain ⟨r, h1, h2⟩ := hg a ha
    exact zfm (p := true) (d := v a) rfl (fun _ => h1) h2
  rw [List.filter_eq_self.mpr fun _ _ => rfl] at this
  exact this
end
noncomputable def nI (i : Nat) : D := .int (i : Int)
theorem zh5 {α : Type} {β : Type} {g : α → β} {l : List α} {i : Nat} (h : i < l.length) (d : α) : (l.map g)[i]? = some (g (l.getD i d)) := by
  rw [List.getElem?_map, List.getD_eq_getElem?_getD, List.getElem?_eq_getElem h]; rfl
theorem zde {α : Type} {l : List α} {i : Nat} (h : i < l.length) (d : α) : l.getD i d ∈ l := by
  rw [List.getD_eq_getElem?_getD, List.getElem?_eq_getElem h]; exact List.getElem_mem _
theorem zbJ {n : Nat} (h : n ≤ 1000000) : opRange [nI n] = some ((List.range' 0 n).map nI) := zja h
theorem zdH {α : Type} {g : α → D} {l : List α} : opF .len [.list (l.map g)] = some (.val (nI l.length)) := by
  show some (R.val (.int ((l.map g).length : Int))) = _
  rw [List.length_map]; rfl
theorem o_addn {a b : Nat} : opF .add [.int (a : Int), .int (b : Int)] = some (.val (.int ((a + b : Nat) : Int))) := by
  show some (R.val (.int ((a : Int) + (b : Int)))) = _
  congr 3
theorem zjl {α : Type} {f : α → D} {k : Nat} (h : ∀ a, (f a).ok k = true) : ∀ l : List α, D.oks k (l.map f) = true
  | [] => rfl
  | a :: l => by
    rw [List.map_cons]
    unfold D.oks
    rw [h a, zjl h l]; rfl
theorem zko {α : Type} {f : α → D} {y : D} {P : α → Bool} (h : ∀ a, PyData.eqv (f a).toPy y.toPy = P a) : ∀ l : List α, ((D.toPys (l.map f)).any fun x => PyData.eqv x y.toPy) = l.any P
  | [] => rfl
  | a :: l => by
    rw [List.map_cons]
    unfold D.toPys
    rw [List.any_cons, h a, zko h l]; rfl
theorem in_map {α : Type} {f : α → D} {y : D} {P : α → Bool} {l : List α} (ho : ∀ a, (f a).ok 8 = true) (hy : y.ok 9 = true) (h : ∀ a, PyData.eqv (f a).toPy y.toPy = P a) : inD y (.list (l.map f)) = some (l.any P) := by
  show (if (D.oks 8 (l.map f) && y.ok 9) = true then some ((D.toPys (l.map f)).any fun x => PyData.eqv x y.toPy) else none) = _
  rw [zjl ho, hy, zko h]; rfl
theorem tupn_at {l : List Nat} {k : Nat} (h : k < l.length) (hk : k ≤ 1000000) : opF .index [.tup (l.map fun (n : Nat) => .int (n : Int)), .int (k : Int)] = some (.val (.int (l.getD k 0 : Int))) := by
  refine zfC ?_ hk
  rw [List.getElem?_map, List.getD_eq_getElem?_getD, List.getElem?_eq_getElem h]; rfl
theorem eqv_int {a b : Int} : PyData.eqv (D.int a).toPy (D.int b).toPy = decide (a = b) := by
  unfold D.toPy
  simp [PyData.eqv]
  rfl
theorem in_nats {l : List Nat} {n : Nat} : opF .in_ [nI n, .list (l.map nI)] = some (.val (.bool (decide (n ∈ l)))) := by
  show (inD (nI n) (.list (l.map nI))).map (fun x => R.val (.bool x)) = _
  rw [in_map (f := nI) (y := nI n) (P := fun (a : Nat) => decide ((a : Int) = (n : Int))) (fun _ => rfl) rfl fun a => eqv_int]
  have : (l.any fun (a : Nat) => decide ((a : Int) = (n : Int))) = decide (n ∈ l) := by
    rw [Bool.eq_iff_iff, List.any_eq_true, decide_eq_true_eq]
    exact ⟨fun ⟨a, h, e⟩ => Int.ofNat.inj (of_decide_eq_true e) ▸ h, fun h => ⟨n, h, decide_eq_true rfl⟩⟩
  rw [this]; rfl
noncomputable def sg8 : List Nat := [33, 42, 46, 47, 91, 93, 97, 98]
noncomputable def aT (k : Nat) : List Nat := [[97], [98], [46], [33], [93], [47], [91, 42, 93], [91, 91, 93], [97], [42], [47]].getD k []
noncomputable def aP (k : Nat) : D := [.str [97], .str [98], .str [92, 46], .str [33], .str [92, 93], .str [47], .str [91, 42, 93], .str [91, 92, 91, 93], .str [97], .tok 0, .str [47]].getD k .none
noncomputable def aC (k : Nat) : List Nat := [[97], [98], [46], [33], [93], [47], [42], [91], [97], [], [47]].getD k []
inductive Mt : List Nat → List Nat → Prop
  | nil : Mt [] []
  | star {as u v : List Nat} : Mt as v → Mt (9 :: as) (u ++ v)
  | one {k c : Nat} {as v : List Nat} : k ≠ 9 → c ∈ aC k → Mt as v → Mt (k :: as) (c :: v)
theorem Mt.nil_iff {u : List Nat} : Mt [] u ↔ u = [] := ⟨fun h => by cases h; rfl, fun h => h ▸ .nil⟩
theorem Mt.star_iff {as w : List Nat} : Mt (9 :: as) w ↔ ∃ u v, w = u ++ v ∧ Mt as v :=
  ⟨fun h => by cases h with
    | star h => exact ⟨_, _, rfl, h⟩
    | one h => exact absurd rfl h, fun ⟨u, v, e, h⟩ => e ▸ .star h⟩
theorem Mt.one_iff {k : Nat} {as w : List Nat} (hk : k ≠ 9) : Mt (k :: as) w ↔ ∃ c v, w = c :: v ∧ c ∈ aC k ∧ Mt as v :=
  ⟨fun h => by cases h with
    | star h => exact absurd rfl hk
    | one _ h1 h2 => exact ⟨_, _, rfl, h1, h2⟩, fun ⟨c, v, e, h1, h2⟩ => e ▸ .one hk h1 h2⟩
theorem Mt.app : ∀ {as bs w : List Nat}, Mt (as ++ bs) w ↔ ∃ u v, w = u ++ v ∧ Mt as u ∧ Mt bs v
  | [], bs, w => ⟨fun h => ⟨[], w, rfl, .nil, h⟩, fun ⟨u, v, e, h1, h2⟩ => by cases h1; exact e ▸ h2⟩
  | k :: as, bs, w => by
    by_cases hk : k = 9
    · subst hk
      rw [List.cons_append, Mt.star_iff]
      constructor
      · rintro ⟨u, v, rfl, h⟩
        obtain ⟨x, y, rfl, h1, h2⟩ := Mt.app.mp h
        exact ⟨u ++ x, y, (List.append_assoc ..).symm, .star h1, h2⟩
      · rintro ⟨u, v, rfl, h1, h2⟩
        obtain ⟨x, y, rfl, h⟩ := Mt.star_iff.mp h1
        exact ⟨x, y ++ v, List.append_assoc .., Mt.app.mpr ⟨y, v, rfl, h, h2⟩⟩
    · rw [List.cons_append, Mt.one_iff hk]
      constructor
      · rintro ⟨c, v, rfl, hc, h⟩
        obtain ⟨x, y, rfl, h1, h2⟩ := Mt.app.mp h
        exact ⟨c :: x, y, rfl, .one hk hc h1, h2⟩
      · rintro ⟨u, v, rfl, h1, h2⟩
        obtain ⟨c, y, rfl, hc, h⟩ := (Mt.one_iff hk).mp h1
        exact ⟨c, y ++ v, rfl, hc, Mt.app.mpr ⟨y, v, rfl, h, h2⟩⟩
noncomputable def mv (w : List Nat) (at_ : List Nat) (k : Nat) : List Nat :=
  if k = 9 then (match at_ with | [] => [] | p :: _ => List.range' p (w.length + 1 - p))
  else (at_.filter fun p => decide (p < w.length) && decide (w.getD p 0 ∈ aC k)).map (· + 1)
theorem mv_star {w : List Nat} {p : Nat} {r : List Nat} : mv w (p :: r) 9 = List.range' p (w.length + 1 - p) := rfl
theorem zjB {w at_ : List Nat} {k : Nat} (hk : k ≠ 9) : mv w at_ k = (at_.filter fun p => decide (p < w.length) && decide (w.getD p 0 ∈ aC k)).map (· + 1) := if_neg hk
set_option genInjectivity false in
structure Pl (w at_ : List Nat) : Prop where
  so : at_.Pairwise (· < ·)
  le : ∀ p ∈ at_, p ≤ w.length
theorem zhS {p l q : Nat} (h : p ≤ l) : q ∈ List.range' p (l + 1 - p) ↔ p ≤ q ∧ q ≤ l := by
  rw [List.mem_range'_1, Nat.add_sub_cancel' (Nat.le_succ_of_le h), Nat.lt_succ_iff]
theorem mv_pl {w at_ : List Nat} {k : Nat} (P : Pl w at_) : Pl w (mv w at_ k) := by
  by_cases hk : k = 9
  · subst hk
    cases at_ with
    | nil => exact P
    | cons p r => exact ⟨List.pairwise_lt_range', fun q h => ((zhS (P.le p List.mem_cons_self)).mp h).2⟩
  · rw [zjB hk]
    refine ⟨List.pairwise_map.mpr ((P.so.sublist List.filter_sublist).imp fun h => Nat.succ_lt_succ h), fun q h => ?_⟩
    obtain ⟨p, hp, rfl⟩ := List.mem_map.mp h
    have := (List.mem_filter.mp hp).2
    rw [Bool.and_eq_true] at this
    exact of_decide_eq_true this.1
theorem zjC {w : List Nat} {p k : Nat} {as : List Nat} (hk : k ≠ 9) : Mt (k :: as) (w.drop p) ↔ (p < w.length ∧ w.getD p 0 ∈ aC k) ∧ Mt as (w.drop (p + 1)) := by
  rw [Mt.one_iff hk]
  by_cases h : p < w.length
  · rw [List.drop_eq_getElem_cons h, List.getD_eq_getElem?_getD, List.getElem?_eq_getElem h]
    exact ⟨fun ⟨c, v, e, h1, h2⟩ => (by cases e; exact ⟨⟨h, h1⟩, h2⟩), fun ⟨h1, h2⟩ => ⟨_, _, rfl, h1.2, h2⟩⟩
  · rw [List.drop_eq_nil_of_le (Nat.not_lt.mp h)]
    exact ⟨fun ⟨c, v, e, _⟩ => (nomatch e), fun ⟨h1, _⟩ => absurd h1.1 h⟩
theorem zlv {w : List Nat} : ∀ {as at_ : List Nat}, Pl w at_ → (w.length ∈ as.foldl (mv w) at_ ↔ ∃ p ∈ at_, Mt as (w.drop p))
  | [], at_, P => by
    simp only [List.foldl_nil, Mt.nil_iff, List.drop_eq_nil_iff]
    exact ⟨fun h => ⟨_, h, Nat.le_refl _⟩, fun ⟨p, h, e⟩ => Nat.le_antisymm (P.le p h) e ▸ h⟩
  | k :: as, at_, P => by
    rw [List.foldl_cons, zlv (mv_pl P)]
    by_cases hk : k = 9
    · subst hk
      cases at_ with
      | nil => exact ⟨fun ⟨_, h, _⟩ => (nomatch h), fun ⟨_, h, _⟩ => nomatch h⟩
      | cons p r =>
        simp only [mv_star, zhS (P.le p List.mem_cons_self)]
        constructor
        · rintro ⟨q, h, hm⟩
          refine ⟨p, List.mem_cons_self, ?_⟩
          have : w.drop p = (w.drop p).take (q - p) ++ w.drop q := by
            conv => lhs; rw [← List.take_append_drop (q - p) (w.drop p)]
            rw [List.drop_drop, Nat.add_sub_cancel' h.1]
          rw [this]
          exact .star hm
        · rintro ⟨p', hp, hm⟩
          obtain ⟨u, v, e, hm⟩ := Mt.star_iff.mp hm
          have hle : p ≤ p' := by
            rcases List.mem_cons.mp hp with rfl | hp
            · exact Nat.le_refl _
            · exact Nat.le_of_lt (List.rel_of_pairwise_cons P.so hp)
          have e2 : v = w.drop (p' + u.length) := by rw [← List.drop_drop, e, List.drop_left]
          have e3 := congrArg List.length e
          rw [List.length_drop, List.length_append] at e3
          refine ⟨p' + u.length, ⟨Nat.le_trans hle (Nat.le_add_right _ _), ?_⟩, e2 ▸ hm⟩
          have := P.le p' hp
          clear hle e e2 hm P
          omega
    · rw [zjB hk]
      constructor
      · rintro ⟨q, h, hm⟩
        obtain ⟨p, hp, rfl⟩ := List.mem_map.mp h
        have hp := List.mem_filter.mp hp
        simp only [Bool.and_eq_true, decide_eq_true_eq] at hp
        exact ⟨p, hp.1, (zjC hk).mpr ⟨hp.2, hm⟩⟩
      · rintro ⟨p, hp, hm⟩
        have := (zjC hk).mp hm
        refine ⟨p + 1, List.mem_map_of_mem (List.mem_filter.mpr ⟨hp, ?_⟩), this.2⟩
        simp only [Bool.and_eq_true, decide_eq_true_eq]
        exact this.1
theorem pl0 (w : List Nat) : Pl w [0] := ⟨List.pairwise_singleton _ _, fun p h => by rw [List.mem_singleton.mp h]; exact Nat.zero_le _⟩
theorem mv_all {w as : List Nat} : w.length ∈ as.foldl (mv w) [0] ↔ Mt as w := by
  rw [zlv (pl0 w)]
  exact ⟨fun ⟨p, h, hm⟩ => by rw [List.mem_singleton.mp h] at hm; exact hm, fun h => ⟨0, List.mem_cons_self, h⟩⟩
noncomputable def tkB : S := (.seq (.ite (.op .is_ (.cons (.var 4) (.cons (.var 1) .nil))) (.seq (.assign 3 (.ite (.var 3) (.op .listOf (.cons (.rangeI (.cons (.op .index (.cons (.var 3) (.cons (.const (.int 0)) .nil))) (.cons (.op .add (.cons (.op .len (.cons (.var 2) .nil)) (.cons (.const (.int 1)) .nil))) .nil))) .nil)) (.list .nil))) .skip) (.seq (.assign 3 (.comp 5 (.seqI (.var 3)) (.and (.op .lt (.cons (.var 5) (.cons (.op .len (.cons (.var 2) .nil)) .nil))) (.call 14 (.cons (.var 4) (.cons (.op .index (.cons (.var 2) (.cons (.var 5) .nil))) .nil)))) (.op .add (.cons (.var 5) (.cons (.const (.int 1)) .nil))))) .skip)) .skip)
section
variable {cf : Nat → List D → Option D}
noncomputable def atD (l : List Nat) : D := .list (l.map nI)
theorem star_ev {ρ : List Slot} {i j : Nat} {w at_ : List Nat} (g : ρ[i]? = some (.val (atD at_))) (g2 : ρ[j]? = some (.val (.str w))) (hw : w.length ≤ 100) (P : Pl w at_) :
    ev cf (.ite (.var i) (.op .listOf (.cons (.rangeI (.cons (.op .index (.cons (.var i) (.cons (.const (.int 0)) .nil))) (.cons (.op .add (.cons (.op .len (.cons (.var j) .nil)) (.cons (.const (.int 1)) .nil))) .nil))) .nil)) (.list .nil)) ρ = some [.own ((mv w at_ 9).map nI)] := by
  rw [zbq, V_v g rfl]
  cases at_ with
  | nil => rfl
  | cons p r =>
    have hp := P.le p List.mem_cons_self
    have h1 : opRange [nI p, nI (w.length + 1)] = some ((List.range' p (w.length + 1 - p)).map nI) := zi9 (Nat.le_trans hp (Nat.le_trans hw (by decide))) (Nat.le_trans (Nat.succ_le_succ hw) (by decide))
    have h0 : opF .index [atD (p :: r), .int 0] = some (.val (nI p)) := zbK (k := 0) rfl (Nat.zero_le _)
    exact V_op1 (zcG (zao (V_op2 (V_v g rfl) rfl h0) (zao (V_op2 (V_op1 (V_v g2 rfl) rfl) rfl (show opF .add [nI w.length, .int 1] = some (.val (nI (w.length + 1))) from rfl)) rfl)) h1) rfl
theorem step_ev {ρ : List Slot} {i j k : Nat} {x : X} {w at_ : List Nat} (g : ρ[i]? = some (.val (atD at_))) (g5 : ∀ d, (ρ.set 5 d)[5]? = some d) (g2 : ∀ d, (ρ.set 5 d)[j]? = some (.val (.str w))) (hk : k ≠ 9)
    (hx : ∀ p, p < w.length → ev cf x (ρ.set 5 (.val (nI p))) = some [.val (.bool (decide (w.getD p 0 ∈ aC k)))]) :
    ev cf (.comp 5 (.seqI (.var i)) (.and (.op .lt (.cons (.var 5) (.cons (.op .len (.cons (.var j) .nil)) .nil))) x) (.op .add (.cons (.var 5) (.cons (.const (.int 1)) .nil)))) ρ = some [.own ((mv w at_ k).map nI)] := by
  rw [zjB hk, List.map_map]
  refine zh7 (g := nI) (zck (V_v g rfl) rfl rfl) fun p _ => zfm (V_and ?_ fun h => hx p (of_decide_eq_true h)) (fun _ => V_op2 (V_v (g5 _) rfl) rfl rfl) rfl
  have e : opF .lt [nI p, nI w.length] = some (.val (.bool (decide (p < w.length)))) := by
    show some (R.val (.bool (decide ((p : Int) < (w.length : Int))))) = _
    rw [decide_eq_decide.mpr Int.ofNat_lt]
  exact V_op2 (V_v (g5 _) rfl) (V_op1 (V_v (g2 _) rfl) rfl) e
theorem zgw {b : S} {i : Nat} {g : Nat → D} {w : List Nat} {I : List Nat → List Slot → Prop}
    (turn : ∀ k, k < 11 → ∀ a ρ, Pl w a → I a ρ → ∃ ρ', ex cf b (ρ.set i (.val (g k))) = some (ρ', .next) ∧ I (mv w a k) ρ') : ∀ {L : List Nat}, (∀ k ∈ L, k < 11) → ∀ {a : List Nat} {ρ : List Slot}, Pl w a → I a ρ → ∃ ρ', forGo (put1 i) (ex cf b) (L.map g) ρ = some (ρ', .next) ∧ I (L.foldl (mv w) a) ρ'
  | [], _, a, ρ, _, h => ⟨ρ, rfl, h⟩
  | k :: L, hL, a, ρ, P, h => by
    obtain ⟨ρ1, e1, h1⟩ := turn k (hL k List.mem_cons_self) a ρ P h
    obtain ⟨ρ2, e2, h2⟩ := zgw turn (fun k hk => hL k (List.mem_cons_of_mem _ hk)) (mv_pl (k := k) P) h1
    exact ⟨ρ2, zaK (st := put1 i) zjc e1 (zbt e2), h2⟩
theorem zkO {w : List Nat} {p : Nat} (h : p < w.length) (hw : w.length ≤ 100) : opF .index [.str w, nI p] = some (.val (.str [w.getD p 0])) := by
  show (if small (p : Int) = true then (match place (p : Int) w.length with | some k => (w[k]?).map (fun c => R.val (.str [c])) | none => none) else none) = _
  rw [if_pos (zaG (Nat.le_trans (Nat.le_of_lt h) (Nat.le_trans hw (by decide))))]
  unfold place
  rw [if_pos (Int.natCast_nonneg p), if_pos (Int.ofNat_lt.mpr h), Int.toNat_natCast]
  show (w[p]?).map (fun c => R.val (.str [c])) = _
  rw [List.getD_eq_getElem?_getD, List.getElem?_eq_getElem h]
  rfl
theorem is8 : (List.range 11).map (fun k => opF .is_ [aP k, .tok 0]) = (List.range 11).map fun k => some (.val (.bool (decide (k = 9)))) := by kernel_rfl
theorem one8 (m : Nat) : [0, 1, 2, 3, 4, 5, 6, 7, 8, 10].map (fun k => sg8.map fun c => callF fns08 (m + 1) 14 [aP k, .str [c]]) = [0, 1, 2, 3, 4, 5, 6, 7, 8, 10].map fun k => sg8.map fun c => some (.bool (decide (c ∈ aC k))) := by kernel_rfl
theorem mem8 : ∀ k, k < 11 → k ≠ 9 → k ∈ [0, 1, 2, 3, 4, 5, 6, 7, 8, 10] := by decide
theorem takes8 (m : Nat) {L w : List Nat} (hL : ∀ k ∈ L, k < 11) (hw : ∀ c ∈ w, c ∈ sg8) (hl : w.length ≤ 100) : ∃ b, callF fns08 (m + 2) 15 [.list (L.map aP), .tok 0, .str w] = some (.bool b) ∧ (b = true ↔ Mt L w) := by
  refine ⟨decide (w.length ∈ L.foldl (mv w) [0]), ?_, by rw [decide_eq_true_eq, mv_all]⟩
  refine zbQ (fn := fn_law_takes) rfl (ρ := [.val (.list (L.map aP)), .val (.tok 0), .val (.str w), .unset, .unset, .unset]) rfl ?_
  show ∃ ρ', ex (callF fns08 (m + 1)) s_law_takes _ = _
  obtain ⟨_, e, x, rfl⟩ := zgw (cf := callF fns08 (m + 1)) (b := tkB) (i := 4) (g := aP) (w := w) (I := fun a ρ => ∃ x, ρ = [.val (.list (L.map aP)), .val (.tok 0), .val (.str w), .val (atD a), x, .unset]) (fun k hk a ρ P h => by
    obtain ⟨x, rfl⟩ := h
    refine ⟨_, ?_, .val (aP k), rfl⟩
    have hi := zfi is8 (List.mem_range.mpr hk)
    unfold tkB
    by_cases h9 : k = 9
    · subst h9
      exact R_seq (R_ite (t := true) (T_of (V_op2 rfl rfl hi)) (R_tt (R_seq (zag (E_of (star_ev rfl rfl hl P) rfl) rfl) (zaf zau)))) (zaf zau)
    · rw [decide_eq_false h9] at hi
      have ho := zfi (one8 m) (mem8 k hk h9)
      exact R_seq (R_ite (t := false) (T_of (V_op2 rfl rfl hi)) (R_ff (R_seq (zag (E_of (step_ev (k := k) rfl (fun _ => rfl) (fun _ => rfl) h9 fun p hp => zaO (zao rfl (zao (V_op2 rfl rfl (zkO hp hl)) rfl)) rfl (zfi ho (hw _ (zde hp 0)))) rfl) rfl) (zaf zau)))) (zaf zau)) hL (pl0 w) ⟨.unset, rfl⟩
  unfold tkB at e
  unfold s_law_takes
  exact ⟨_, R_seq (zag (d := atD [0]) rfl rfl) (zaf (R_seq (R_for (I_of (zck rfl rfl rfl)) e) (zaf (R_seq (R_ret (E_of (V_op2 (V_op1 rfl rfl) rfl in_nats) rfl)) zan))))⟩
end
noncomputable def mgA (r : List Nat) (k : Nat) : List Nat := if k = 9 ∧ r.getLast? = some 9 then r else r ++ [k]
noncomputable def mg (as : List Nat) : List Nat := as.foldl mgA []
noncomputable def atO (k : Nat) : Option D := if k = 9 then none else some (aP k)
noncomputable def at2 (k : Nat) : List Nat × Option D := (aT k, atO k)
noncomputable def tx (as : List Nat) : List Nat := as.flatMap aT
theorem tok8 : (List.range 11).map (fun k => isTok0 (aP k)) = (List.range 11).map fun k => decide (k = 9) := by kernel_rfl
theorem push8 {r : List Nat} {k : Nat} (hr : ∀ k ∈ r, k < 11) : pushA (r.map aP) (atO k) = (mgA r k).map aP := by
  unfold atO mgA
  by_cases hk : k = 9
  · subst hk
    rw [if_pos rfl]
    unfold pushA
    rw [List.getLast?_map]
    cases e : r.getLast? with
    | none => rw [if_neg (by decide), if_neg (by simp), List.map_append]; rfl
    | some x =>
      have := zfi tok8 (List.mem_range.mpr (hr x (List.mem_of_getLast? e)))
      show (if some (isTok0 (aP x)) = some true then _ else _) = _
      rw [this]
      by_cases hx : x = 9
      · subst hx; rfl
      · rw [if_neg (by simp [hx]), if_neg (by simp [hx]), List.map_append]; rfl
  · rw [if_neg hk, if_neg fun h => hk h.1, List.map_append]; rfl
theorem mgA_lt {r : List Nat} {k : Nat} (hr : ∀ k ∈ r, k < 11) (hk : k < 11) : ∀ j ∈ mgA r k, j < 11 := by
  intro j hj
  unfold mgA at hj
  split at hj
  · exact hr j hj
  · rcases List.mem_append.mp hj with h | h
    · exact hr j h
    · rw [List.mem_singleton.mp h]; exact hk
theorem zg7 : ∀ {as r : List Nat}, (∀ k ∈ as, k < 11) → (∀ k ∈ r, k < 11) → outA (r.map aP) (as.map at2) = (as.foldl mgA r).map aP ∧ ∀ k ∈ as.foldl mgA r, k < 11
  | [], r, _, hr => ⟨rfl, hr⟩
  | k :: as, r, h, hr => by
    have := zg7 (as := as) (r := mgA r k) (fun j hj => h j (List.mem_cons_of_mem _ hj)) (mgA_lt hr (h k List.mem_cons_self))
    rw [← push8 hr] at this
    exact this
theorem mt_mgA {r : List Nat} {k : Nat} {q w : List Nat} : Mt (mgA r k ++ q) w ↔ Mt (r ++ k :: q) w := by
  unfold mgA
  split
  · rename_i h
    obtain ⟨rfl, h⟩ := h
    obtain ⟨r', rfl⟩ : ∃ r', r = r' ++ [9] := by
      rcases List.eq_nil_or_concat r with rfl | ⟨r', d, rfl⟩
      · cases h
      · rw [List.concat_eq_append] at h ⊢
        rw [List.getLast?_append] at h
        exact ⟨r', by cases h; rfl⟩
    rw [List.append_assoc, List.append_assoc]
    show Mt (r' ++ 9 :: q) w ↔ Mt (r' ++ 9 :: 9 :: q) w
    rw [Mt.app, Mt.app]
    have e : ∀ v, Mt (9 :: q) v ↔ Mt (9 :: 9 :: q) v := fun v => by
      constructor
      · intro h
        exact .star (u := []) h
      · intro h
        obtain ⟨a, b, rfl, h1⟩ := Mt.star_iff.mp h
        obtain ⟨c, d, rfl, h2⟩ := Mt.star_iff.mp h1
        rw [← List.append_assoc]
        exact .star h2
    simp only [e]
  · rw [List.append_assoc]; rfl
theorem mt_mg : ∀ {as r : List Nat} {w : List Nat}, Mt (as.foldl mgA r) w ↔ Mt (r ++ as) w
  | [], r, w => by rw [List.append_nil]; rfl
  | k :: as, r, w => by rw [List.foldl_cons, mt_mg, mt_mgA]
theorem atoms8 {k : Nat} (h : k < 11) : IsAtom8 (.str [46]) (aT k) (atO k) ∧ ∀ d, atO k = some d → GoodD d ∨ d = .tok 0 := by
  have hg : ∀ k, k < 11 → ∀ d, atO k = some d → GoodD d ∨ d = .tok 0 := fun k hk d e => by
    have g : (List.range 11).map (fun k => (atO k).map fun d => opF .isnot [d, .tok 0]) = (List.range 11).map fun k => (atO k).map fun _ => some (R.val (.bool true)) := by kernel_rfl
    have g := zfi g (List.mem_range.mpr hk)
    rw [e] at g
    exact .inl (Option.some.inj g)
  have all : ∀ k ∈ [0, 1, 2, 3, 4, 5, 6, 7, 8, 9, 10], IsAtom8 (.str [46]) (aT k) (atO k) := List.forall_mem_cons.mpr ⟨zbC (by decide) (by decide) (by decide) (by decide), List.forall_mem_cons.mpr ⟨zbC (by decide) (by decide) (by decide) (by decide), List.forall_mem_cons.mpr ⟨zbC (by decide) (by decide) (by decide) (by decide), List.forall_mem_cons.mpr ⟨zbC (by decide) (by decide) (by decide) (by decide), List.forall_mem_cons.mpr ⟨zbC (by decide) (by decide) (by decide) (by decide), List.forall_mem_cons.mpr ⟨zbC (by decide) (by decide) (by decide) (by decide), List.forall_mem_cons.mpr ⟨zkm, List.forall_mem_cons.mpr ⟨zkn, List.forall_mem_cons.mpr ⟨zbC (by decide) (by decide) (by decide) (by decide), List.forall_mem_cons.mpr ⟨zhq, List.forall_mem_cons.mpr ⟨zbC (by decide) (by decide) (by decide) (by decide), fun _ h => nomatch h⟩⟩⟩⟩⟩⟩⟩⟩⟩⟩⟩
  exact ⟨all k ((show ∀ k, k < 11 → k ∈ [0, 1, 2, 3, 4, 5, 6, 7, 8, 9, 10] by decide) k h), hg k h⟩
theorem ziP {as : List Nat} (h : ∀ k ∈ as, k < 11) : (tx as).length ≤ 6 * as.length := by
  have h6 : ∀ k, k < 11 → (aT k).length ≤ 6 := by decide
  induction as with
  | nil => exact Nat.le_refl _
  | cons k as ih =>
    have := ih fun j hj => h j (List.mem_cons_of_mem _ hj)
    show (aT k ++ tx as).length ≤ 6 * (as.length + 1)
    rw [List.length_append, Nat.mul_succ, Nat.add_comm]
    exact Nat.add_le_add this (h6 k (h k List.mem_cons_self))
theorem trans8 (m : Nat) {as : List Nat} (h : ∀ k ∈ as, k < 11) (hl : as.length ≤ 100) : callF fns08 (m + 2) 1 [.str (tx as), .tok 0, .str [46]] = some (.list ((mg as).map aP)) := by
  have ht : textA (as.map at2) = tx as := by unfold textA tx; rw [List.flatMap_map]; rfl
  have hx := ziP h
  have := zdO (fns := fns08) rfl rfl (q := .str [46]) (as := as.map at2) (fun a ha => by
    obtain ⟨k, hk, rfl⟩ := List.mem_map.mp ha
    exact atoms8 (h k hk)) (by rw [List.length_map]; exact Nat.le_trans hl (by decide)) (by rw [ht]; exact Nat.le_trans hx (Nat.le_trans (Nat.mul_le_mul_left 6 hl) (by decide))) m
  rw [ht, show ([] : List D) = ([] : List Nat).map aP from rfl, (zg7 (r := []) h fun _ h => nomatch h).1] at this
  exact this
theorem tt8 (m : Nat) {as w : List Nat} (h : ∀ k ∈ as, k < 11) (hw : ∀ c ∈ w, c ∈ sg8) (hl : w.length ≤ 100) : ∃ b, callF fns08 (m + 2) 15 [.list ((mg as).map aP), .tok 0, .str w] = some (.bool b) ∧ (b = true ↔ Mt as w) := by
  obtain ⟨b, e, hb⟩ := takes8 m (zg7 (r := []) h fun _ h => nomatch h).2 hw hl
  exact ⟨b, e, hb.trans mt_mg⟩
section
variable {fns : Nat → Option Fn}
theorem zgF (h2 : fns 2 = some fn_fspath) (h3 : fns 3 = some fn_get_sep) (h6 : fns 6 = some fn_dirname) (m : Nat) {l x z : List Nat} {r i n : D} {e : D} (hr : opF .rfind [.str l, .str [47]] = some (.val r)) (ha : opF .add [r, .int 1] = some (.val i))
    (s1 : opF .slice [.str l, .none, i] = some (.val (.str x))) (hn : opF .len [.str x] = some (.val n)) (hm : opF .mul [.str [47], n] = some (.val e)) {b : Bool} (he : opF .ne [.str x, e] = some (.val (.bool b)))
    (hs : opF .rstrip [.str x, .str [47]] = some (.val (.str z))) : callF fns (m + 2) 6 [.str l] = some (.str (if x ≠ [] ∧ b = true then z else x)) := by
  refine zbQ h6 (ρ := [.val (.str l), .unset, .unset, .unset]) rfl ?_
  show ∃ ρ', ex (callF fns (m + 1)) s_dirname _ = _
  have f1 := zb3 h2 m l
  have f2 := ziA h3 m l
  generalize callF fns (m + 1) = cf at *
  have c : evT cf (.and (.var 3) (.op .ne (.cons (.var 3) (.cons (.op .mul (.cons (.var 1) (.cons (.op .len (.cons (.var 3) .nil)) .nil))) .nil)))) [.val (.str l), .val (.str [47]), .val i, .val (.str x)] = some (!x.isEmpty && b) := by
    rw [zb4, za9, V_v rfl rfl]
    cases x with
    | nil => rfl
    | cons c x => exact congrArg truthR (V_op2 (V_v rfl rfl) (V_op2 (V_v rfl rfl) (V_op1 (V_v rfl rfl) hn) hm) he)
  have tl : ∃ ρ', ex cf (.seq (.ite (.and (.var 3) (.op .ne (.cons (.var 3) (.cons (.op .mul (.cons (.var 1) (.cons (.op .len (.cons (.var 3) .nil)) .nil))) .nil)))) (.seq (.assign 3 (.op .rstrip (.cons (.var 3) (.cons (.var 1) .nil)))) .skip) .skip) (.seq (.ret (.var 3)) .skip)) [.val (.str l), .val (.str [47]), .val i, .val (.str x)] = some (ρ', .ret (.str (if x ≠ [] ∧ b = true then z else x))) := by
    by_cases h : x ≠ [] ∧ b = true
    · rw [if_pos h]
      have : (!x.isEmpty && b) = true := by
        cases x with
        | nil => exact absurd rfl h.1
        | cons _ _ => exact h.2
      rw [this] at c
      exact ⟨_, R_seq (R_ite c (R_tt (R_seq (zag (E_of (V_op2 (V_v rfl rfl) (V_v rfl rfl) hs) rfl) rfl) (zaf zau)))) (zaf (R_seq (R_ret (E_of (V_v rfl rfl) rfl)) zan))⟩
    · rw [if_neg h]
      have : (!x.isEmpty && b) = false := by
        cases x with
        | nil => rfl
        | cons _ _ => exact Bool.eq_false_iff.mpr fun q => h ⟨List.cons_ne_nil _ _, q⟩
      rw [this] at c
      exact ⟨_, R_seq (R_ite c (R_ff zau)) (zaf (R_seq (R_ret (E_of (V_v rfl rfl) rfl)) zan))⟩
  obtain ⟨ρ', tl⟩ := tl
  unfold s_dirname
  exact ⟨ρ', R_seq (zag (E_of (zaO (zao (V_v rfl rfl) rfl) rfl f1) rfl) rfl) (zaf (R_seq (zag (E_of (zaO (zao (V_v rfl rfl) rfl) rfl f2) rfl) rfl) (zaf (R_seq (zag (E_of (V_op2 (V_op2 (V_v rfl rfl) (V_v rfl rfl) hr) rfl ha) rfl) rfl) (zaf (R_seq (zag (E_of (V_op3 (V_v rfl rfl) rfl (V_v rfl rfl) s1) rfl) rfl) (zaf tl)))))))⟩
theorem zdy (h2 : fns 2 = some fn_fspath) (h3 : fns 3 = some fn_get_sep) (h6 : fns 6 = some fn_dirname) (m : Nat) {x y : List Nat} (h : 47 ∉ y) (hl : x.length < 1000000) :
    callF fns (m + 2) 6 [.str (x ++ 47 :: y)] = some (.str (strip0 (x ++ [47]))) := by
  have e : x ++ 47 :: y = (x ++ [47]) ++ y := by simp
  have hlen : ((x ++ [47]).length : Int) = (x.length : Int) + 1 := by simp
  have := zgF h2 h3 h6 m (l := x ++ 47 :: y) (x := x ++ [47]) (z := ((x ++ [47]).reverse.dropWhile fun c => c == 47).reverse) (r := .int (x.length : Int)) (i := .int ((x ++ [47]).length : Int)) (n := .int ((x ++ [47]).length : Int))
    (e := .str (List.replicate (x ++ [47]).length 47)) (b := !decide (x ++ [47] = List.replicate (x ++ [47]).length 47)) (zio h) (by rw [hlen]; rfl) (by rw [e]; exact o_to (by simp; omega)) rfl (zkQ (by unfold lim; simp; omega)) rfl zhD
  rw [this]
  unfold strip0
  by_cases hx : x ++ [47] = List.replicate (x ++ [47]).length 47
  · rw [if_pos hx, if_neg (by rintro ⟨_, q⟩; rw [Bool.not_eq_true', decide_eq_false_iff_not] at q; exact q hx)]
  · rw [if_neg hx, if_pos ⟨by simp, by rw [Bool.not_eq_true', decide_eq_false_iff_not]; exact hx⟩]
end
noncomputable def NameOK (w : List Nat) : Prop := w ≠ [] ∧ 47 ∉ w
section
variable {fns : Nat → Option Fn}
end
noncomputable def nD (n : List (List Nat)) : D := .list (n.map .str)
theorem eqv_str {a b : List Nat} : PyData.eqv (D.str a).toPy (D.str b).toPy = decide (a = b) := by
  have h := fun (x y : PySem.Str) => (show PyData.eqv (.str x) (.str y) = (x == y) from by simp [PyData.eqv])
  show PyData.eqv (.str ⟨a.toArray⟩) (.str ⟨b.toArray⟩) = _
  rw [h]
  by_cases e : a = b
  · subst e; simp
  · rw [decide_eq_false e, beq_eq_false_iff_ne]
    intro q
    exact e (by simpa using q)
theorem zh1 : ∀ {a b : List (List Nat)}, PyData.eqvAll (D.toPys (a.map .str)) (D.toPys (b.map .str)) = decide (a = b)
  | [], [] => rfl
  | [], _ :: _ => by simp [D.toPys, PyData.eqvAll]
  | _ :: _, [] => by simp [D.toPys, PyData.eqvAll]
  | x :: a, y :: b => by
    simp only [List.map_cons, D.toPys, PyData.eqvAll, eqv_str, zh1 (a := a) (b := b)]
    by_cases h1 : x = y <;> by_cases h2 : a = b <;> simp [h1, h2]
theorem eqv_nD {a b : List (List Nat)} : PyData.eqv (nD a).toPy (nD b).toPy = decide (a = b) := by
  unfold nD D.toPy
  rw [PyData.eqv]
  exact zh1
theorem zjk : ∀ {k : Nat} {l : List (List Nat)}, D.oks (k + 1) (l.map .str) = true
  | _, [] => rfl
  | k, s :: l => by
    rw [List.map_cons]
    unfold D.oks
    rw [zjk]; rfl
theorem ok_nD {k : Nat} {n : List (List Nat)} : (nD n).ok (k + 2) = true := by
  unfold nD D.ok
  exact zjk
theorem zhb {a b : List (List Nat)} : opF .eq [nD a, nD b] = some (.val (.bool (decide (a = b)))) := by
  have e : eqD (nD a) (nD b) = some (decide (a = b)) := by
    show (if ((nD a).ok 9 && (nD b).ok 9) = true then some (PyData.eqv (nD a).toPy (nD b).toPy) else none) = _
    rw [ok_nD, ok_nD, eqv_nD]; rfl
  show (eqD (nD a) (nD b)).map (fun x => R.val (.bool x)) = _
  rw [e]; rfl
noncomputable def npB : S := (.seq (.ite (.or (.not (.var 8)) (.op .eq (.cons (.var 8) (.cons (.var 2) .nil)))) (.seq .cont .skip) .skip) (.seq (.ite (.or (.op .ne (.cons (.var 8) (.cons (.var 3) .nil))) (.or (.and (.not (.var 5)) (.not (.var 7))) (.and (.var 7) (.op .eq (.cons (.op .index (.cons (.var 7) (.cons (.op .neg (.cons (.const (.int 1)) .nil)) .nil))) (.cons (.var 3) .nil)))))) (.seq (.append 7 (.var 8)) .skip) (.seq (.ite (.var 7) (.seq (.pop 7) .skip) .skip) .skip)) .skip))
noncomputable def sp (l : List Nat) : List (List Nat) := (Txt.split ⟨l.toArray⟩ ⟨[47].toArray⟩).map (·.cps.toList)
theorem sp_ne (l : List Nat) : sp l ≠ [] := by
  intro h
  have h' : Txt.split ⟨l.toArray⟩ ⟨[47].toArray⟩ = [] := List.map_eq_nil_iff.mp h
  unfold Txt.split at h'
  split at h'
  · cases h'
  · split at h'
    · cases h'
    · rw [partsBetween_eq] at h'
      obtain ⟨p, r, e⟩ := partsFrom_ne ⟨l.toArray⟩ (PySem.Str.mk [47].toArray).length 0 (occurrences ⟨l.toArray⟩ ⟨[47].toArray⟩ 0 (PySem.Str.mk l.toArray).length ((PySem.Str.mk l.toArray).length + 1))
      rw [e] at h'; cases h'
theorem zgU {l : List Nat} : ∀ p ∈ sp l, 47 ∉ p := by
  intro p hp
  obtain ⟨q, hq, rfl⟩ := List.mem_map.mp hp
  exact split_free ⟨l.toArray⟩ 47 q hq
theorem zgs : ∀ ps : List PySem.Str, (PySem.Str.join ⟨[47].toArray⟩ ps).cps.toList = joinL [47] (ps.map (·.cps.toList))
  | [] => rfl
  | [x] => rfl
  | x :: y :: r => by
    have ih := zgs (y :: r)
    show ((x ++ ⟨[47].toArray⟩ ++ PySem.Str.join ⟨[47].toArray⟩ (y :: r) : PySem.Str)).cps.toList = x.cps.toList ++ [47] ++ joinL [47] ((y :: r).map (·.cps.toList))
    rw [← ih]
    show (x.cps ++ [47].toArray ++ (PySem.Str.join ⟨[47].toArray⟩ (y :: r)).cps).toList = _
    simp
theorem zfs (l : List Nat) : joinL [47] (sp l) = l := by
  have := zgs (Txt.split ⟨l.toArray⟩ ⟨[47].toArray⟩)
  rw [join_split] at this
  exact this.symm
theorem zer {s a b : List Nat} {r : List (List Nat)} : joinL s (a :: b :: r) = a ++ s ++ joinL s (b :: r) := rfl
theorem zk9 {a a' : List Nat} {u v : List Nat} (h : 47 ∉ a) (h' : 47 ∉ a') (e : a ++ 47 :: u = a' ++ 47 :: v) : a = a' ∧ u = v := by
  induction a generalizing a' with
  | nil =>
    cases a' with
    | nil => simp at e; exact ⟨rfl, e⟩
    | cons c a' => simp at e; exact absurd e.1 (by intro q; exact h' (by rw [← q]; simp))
  | cons c a ih =>
    cases a' with
    | nil => simp at e; exact absurd e.1 (by intro q; exact h (by rw [q]; simp))
    | cons d a' =>
      simp at e
      obtain ⟨x, y⟩ := ih (fun q => h (List.mem_cons_of_mem _ q)) (fun q => h' (List.mem_cons_of_mem _ q)) e.2
      exact ⟨by rw [e.1, x], y⟩
theorem zda : ∀ {a b : List (List Nat)}, a ≠ [] → b ≠ [] → (∀ w ∈ a, 47 ∉ w) → (∀ w ∈ b, 47 ∉ w) → joinL [47] a = joinL [47] b → a = b
  | [], _, h, _, _, _, _ => absurd rfl h
  | _ :: _, [], _, h, _, _, _ => absurd rfl h
  | [x], [y], _, _, _, _, e => by rw [show x = y from e]
  | [x], y :: z :: r, _, _, h1, _, e => by
    exfalso
    have : x = y ++ [47] ++ joinL [47] (z :: r) := e
    exact h1 x (by simp) (by rw [this]; simp)
  | x :: z :: r, [y], _, _, _, h2, e => by
    exfalso
    have : x ++ [47] ++ joinL [47] (z :: r) = y := e
    exact h2 y (by simp) (by rw [← this]; simp)
  | x :: z :: r, y :: w :: t, _, _, h1, h2, e => by
    have e' : x ++ 47 :: joinL [47] (z :: r) = y ++ 47 :: joinL [47] (w :: t) := by
      have e2 : x ++ [47] ++ joinL [47] (z :: r) = y ++ [47] ++ joinL [47] (w :: t) := e
      simpa using e2
    obtain ⟨a, b⟩ := zk9 (h1 x (by simp)) (h2 y (by simp)) e'
    rw [a, zda (by simp) (by simp) (fun w hw => h1 w (List.mem_cons_of_mem _ hw)) (fun w hw => h2 w (List.mem_cons_of_mem _ hw)) b]
theorem sp_of {ns : List (List Nat)} (h0 : ns ≠ []) (h : ∀ w ∈ ns, 47 ∉ w) : sp (joinL [47] ns) = ns := zda (sp_ne _) h0 zgU h (zfs _)
theorem zha {l : List Nat} (h : l.length + 2 ≤ lim) : opF .split [.str l, .str [47]] = some (.own ((sp l).map .str)) := by
  show (if ([47] : List Nat).length = 1 ∧ l.length + 2 ≤ lim then some (R.own ((Txt.split ⟨l.toArray⟩ ⟨[47].toArray⟩).map fun x => .str x.cps.toList)) else none) = _
  rw [if_pos ⟨rfl, h⟩]
  unfold sp
  rw [List.map_map]; rfl
theorem zcZ : ∀ ls : List (List Nat), toStrs (ls.map .str) = some ls
  | [] => rfl
  | l :: ls => by
    rw [List.map_cons]
    unfold toStrs
    rw [zcZ ls]; rfl
theorem zej {ls : List (List Nat)} (h : (joinL [47] ls).length ≤ lim) : opF .join [.str [47], .list (ls.map .str)] = some (.val (.str (joinL [47] ls))) := by
  show (match toStrs (ls.map .str) with
    | some ls => if (joinL [47] ls).length ≤ lim then some (R.val (.str (joinL [47] ls))) else none
    | none => none) = _
  rw [zcZ]
  simp only
  rw [if_pos h]
set_option genInjectivity false in
structure Clean (w : List Nat) : Prop where
  ne : w ≠ []
  sl : 47 ∉ w
  d1 : w ≠ [46]
  d2 : w ≠ [46, 46]
noncomputable def told (ns : List (List Nat)) : List Nat := 47 :: joinL [47] ns
theorem Clean.nm {w : List Nat} (h : Clean w) : NameOK w := ⟨h.ne, h.sl⟩
theorem zhQ {ns : List (List Nat)} (h0 : ns ≠ []) (h : ∀ w ∈ ns, NameOK w) : joinL [47] ns ≠ [] := by
  match ns, h0 with
  | [x], _ => exact (h x (by simp)).1
  | x :: y :: r, _ => rw [zer]; simp
theorem zdw {ns : List (List Nat)} (h : ∀ w ∈ ns, NameOK w) : (joinL [47] ns).head? ≠ some 47 := by
  intro q
  match ns with
  | [] => cases q
  | [x] => exact (h x (by simp)).2 (List.mem_of_head? q)
  | x :: y :: r =>
    obtain ⟨h0, h1⟩ := h x (by simp)
    cases x with
    | nil => exact h0 rfl
    | cons c x => cases q; exact h1 (by simp)
theorem o_cut12 {t : List Nat} : opF .slice [.str (47 :: t), .int 1, .int 2] = some (.val (.str (t.take 1))) := by
  have e1 : bound (.int 1) 0 (47 :: t).length = some (clip 1 (47 :: t).length) := rfl
  have e2 : bound (.int 2) (47 :: t).length (47 :: t).length = some (clip 2 (47 :: t).length) := rfl
  show (match bound (.int 1) 0 (47 :: t).length, bound (.int 2) (47 :: t).length (47 :: t).length with
    | some lo, some hi => some (R.val (.str (cut (47 :: t) lo hi)))
    | _, _ => none) = _
  rw [e1, e2]
  show some (R.val (.str (cut (47 :: t) (clip 1 (47 :: t).length) (clip 2 (47 :: t).length)))) = _
  have c1 : clip 1 (47 :: t).length = 1 := zbG (k := 1) (by simp)
  rw [c1]
  cases t with
  | nil => rfl
  | cons c t =>
    have c2 : clip 2 (47 :: c :: t).length = 2 := zbG (k := 2) (by simp)
    rw [c2]; rfl
theorem o_from1 {t : List Nat} : opF .slice [.str (47 :: t), .int 1, .none] = some (.val (.str t)) := by
  have := o_from (x := [47]) (y := t) (by simp)
  exact this
theorem zkN {t : List Nat} : opF .slice [.str (47 :: t), .none, .int 1] = some (.val (.str [47])) := o_take1
theorem ne_head {t : List Nat} (h : t.head? ≠ some 47) : opF .ne [.str (t.take 1), .str [47]] = some (.val (.bool true)) := by
  rw [ne_str, decide_eq_false (fun q => h (take1_head.mp q))]; rfl
section
variable {fns : Nat → Option Fn}
theorem zeL (h2 : fns 2 = some fn_fspath) (h7 : fns 7 = some fn_splitroot) (m : Nat) {t : List Nat} (h : t.head? ≠ some 47) : callF fns (m + 2) 7 [.str (47 :: t)] = some (.tup [.str [], .str [47], .str t]) := by
  refine zbQ h7 (ρ := [.val (.str (47 :: t)), .unset, .unset]) rfl ?_
  show ∃ ρ', ex (callF fns (m + 1)) s_splitroot _ = _
  have f1 := zb3 h2 m (47 :: t)
  generalize callF fns (m + 1) = cf at *
  have c : ev cf (.or (.op .ne (.cons (.op .slice (.cons (.var 0) (.cons (.const (.int 1)) (.cons (.const (.int 2)) .nil)))) (.cons (.var 1) .nil))) (.op .eq (.cons (.op .slice (.cons (.var 0) (.cons (.const (.int 2)) (.cons (.const (.int 3)) .nil)))) (.cons (.var 1) .nil)))) [.val (.str (47 :: t)), .val (.str [47]), .val (.str [])] = some [.val (.bool true)] := by
    rw [zbE, V_op2 (V_op3 (V_v rfl rfl) rfl rfl o_cut12) (V_v rfl rfl) (ne_head h)]; rfl
  have k : ev cf (.tup (.cons (.var 2) (.cons (.var 1) (.cons (.op .slice (.cons (.var 0) (.cons (.const (.int 1)) (.cons (.const .none) .nil)))) .nil)))) [.val (.str (47 :: t)), .val (.str [47]), .val (.str [])] = some [.val (.tup [.str [], .str [47], .str t])] := by
    rw [zbs, zao (V_v rfl rfl) (zao (V_v rfl rfl) (zao (V_op3 (V_v rfl rfl) rfl rfl o_from1) rfl))]; rfl
  unfold s_splitroot
  exact ⟨_, R_seq (zag (E_of (zaO (zao (V_v rfl rfl) rfl) rfl f1) rfl) rfl) (zaf (R_seq (R_ite (t := false) (T_of (V_op2 (V_v rfl rfl) rfl rfl)) (R_ff (R_seq (zag rfl rfl) (zaf (R_seq (zag rfl rfl) (zaf zau)))))) (zaf (R_seq (R_ite (t := false) (T_of (V_op2 (V_op3 (V_v rfl rfl) rfl rfl zkN) (V_v rfl rfl) rfl)) (R_ff (R_seq (R_ite (t := true) (T_of c) (R_tt (R_seq (R_ret (E_of k rfl)) zan))) zan))) zan))))⟩
theorem zjr {cf : Nat → List D → Option D} {x0 x4 x6 : Slot} : ∀ (ns : List (List Nat)), (∀ w ∈ ns, Clean w) → ∀ (acc : List D) (x8 : Slot), acc.length + ns.length < lim →
    ∃ y8, forGo (put1 8) (ex cf npB) (ns.map .str) [x0, .val (.str [47]), .val (.str [46]), .val (.str [46, 46]), x4, .val (.str [47]), x6, .own acc, x8] =
      some ([x0, .val (.str [47]), .val (.str [46]), .val (.str [46, 46]), x4, .val (.str [47]), x6, .own (acc ++ ns.map .str), y8], .next) := by
  intro ns
  induction ns with
  | nil => intro _ acc x8 _; exact ⟨x8, by rw [List.map_nil, List.append_nil]; rfl⟩
  | cons w ns ih =>
    intro h acc x8 hl
    obtain ⟨h1, h2, h3, h4⟩ := h w List.mem_cons_self
    rw [List.length_cons, ← Nat.succ_add_eq_add_succ] at hl
    obtain ⟨y8, e⟩ := ih (fun v hv => h v (List.mem_cons_of_mem _ hv)) (acc ++ [.str w]) (.val (.str w)) (by rw [List.length_append]; exact hl)
    have k1 : opF .eq [.str w, .str [46]] = some (.val (.bool false)) := by rw [eq_str, decide_eq_false h3]
    have k2 : opF .ne [.str w, .str [46, 46]] = some (.val (.bool true)) := by rw [ne_str, decide_eq_false h4]; rfl
    refine ⟨y8, ?_⟩
    rw [List.map_cons]
    refine zaK (st := put1 8) rfl (o := .next) (ρ₂ := [x0, .val (.str [47]), .val (.str [46]), .val (.str [46, 46]), x4, .val (.str [47]), x6, .own (acc ++ [.str w]), .val (.str w)]) ?_ (zbt ?_)
    · unfold npB
      have n1 : ev cf (.not (.var 8)) [x0, .val (.str [47]), .val (.str [46]), .val (.str [46, 46]), x4, .val (.str [47]), x6, .own acc, .val (.str w)] = some [.val (.bool false)] := by
        rw [za8, V_v rfl rfl]
        cases w with
        | nil => exact absurd rfl h1
        | cons c w => rfl
      refine R_seq (R_ite (T_of (V_or n1 (V_op2 (V_v rfl rfl) (V_v rfl rfl) k1))) (R_ff zau)) (zaf (R_seq (R_ite (t := true) ?_ (R_tt (R_seq (zbH (E_of (V_v rfl rfl) rfl) rfl (Nat.lt_of_le_of_lt (Nat.le_trans (Nat.le_succ _) (Nat.le_add_right _ _)) hl) rfl) (zaf zau)))) (zaf zau)))
      rw [zb4, zbE, V_op2 (V_v rfl rfl) (V_v rfl rfl) k2]; rfl
    · rw [e, List.append_assoc]; rfl
theorem zjq (h2 : fns 2 = some fn_fspath) (h7 : fns 7 = some fn_splitroot) (h9 : fns 9 = some fn_normpath) (m : Nat) {ns : List (List Nat)} (h : ∀ w ∈ ns, Clean w) (hl : (told ns).length ≤ 100000) (hn : ns.length ≤ 100000) : callF fns (m + 3) 9 [.str (told ns)] = some (.str (told ns)) := by
  refine zbQ h9 (ρ := [.val (.str (told ns)), .unset, .unset, .unset, .unset, .unset, .unset, .unset, .unset]) rfl ?_
  show ∃ ρ', ex (callF fns (m + 2)) s_normpath _ = _
  have f1 := zb3 h2 (m + 1) (told ns)
  have f7 : callF fns (m + 2) 7 [.str (told ns)] = some (.tup [.str [], .str [47], .str (joinL [47] ns)]) := zeL h2 h7 m (zdw fun w hw => (h w hw).nm)
  have hl2 : (joinL [47] ns).length + 1 ≤ 100000 := hl
  have k1 := zha (l := joinL [47] ns) (Nat.le_trans (Nat.succ_le_succ hl2) (by decide))
  have k3 := zej (ls := ns) (Nat.le_trans (Nat.le_of_succ_le hl2) (by decide))
  have k4 : opF .add [.str [47], .str (joinL [47] ns)] = some (.val (.str (told ns))) := zc5 (by rw [Nat.add_comm]; exact Nat.le_trans hl2 (by decide))
  have lp : ∃ y8, forGo (put1 8) (ex (callF fns (m + 2)) npB) ((sp (joinL [47] ns)).map .str) [.val (.str (joinL [47] ns)), .val (.str [47]), .val (.str [46]), .val (.str [46, 46]), .val (.str []), .val (.str [47]), .val (.list ((sp (joinL [47] ns)).map .str)), .own [], .unset] =
      some ([.val (.str (joinL [47] ns)), .val (.str [47]), .val (.str [46]), .val (.str [46, 46]), .val (.str []), .val (.str [47]), .val (.list ((sp (joinL [47] ns)).map .str)), .own (ns.map .str), y8], .next) := by
    by_cases h0 : ns = []
    · subst h0
      have e : sp (joinL [47] []) = [[]] := by
        exact sp_of (ns := [[]]) (by decide) (by decide)
      rw [e]
      exact ⟨_, zaK (st := put1 8) rfl (R_seq (R_ite (t := true) rfl (R_tt (R_seq zeG zbm))) zbm) (zcu zch)⟩
    · rw [sp_of h0 fun w hw => (h w hw).sl]
      obtain ⟨y8, e⟩ := zjr (cf := callF fns (m + 2)) (x0 := .val (.str (joinL [47] ns))) (x4 := .val (.str [])) (x6 := .val (.list (ns.map .str))) ns h [] .unset (by rw [List.length_nil, Nat.zero_add]; exact Nat.lt_of_le_of_lt hn (by decide))
      exact ⟨y8, e⟩
  obtain ⟨y8, lp⟩ := lp
  unfold npB at lp
  generalize callF fns (m + 2) = cf at *
  have k5 : ev1 cf (.or (.var 0) (.var 2)) [.val (.str (told ns)), .val (.str [47]), .val (.str [46]), .val (.str [46, 46]), .val (.str []), .val (.str [47]), .val (.list (ns.map .str)), .val (.list (ns.map .str)), y8] = some (.str (told ns)) := rfl
  unfold s_normpath
  refine ⟨_, R_seq (zag (E_of (zaO (zao (V_v rfl rfl) rfl) rfl f1) rfl) rfl) (zaf (R_seq (R_ite (t := false) (T_of (V_op2 (V_v rfl rfl) rfl rfl)) (R_ff (R_seq (zag rfl rfl) (zaf (R_seq (zag rfl rfl) (zaf (R_seq (zag rfl rfl) (zaf zau)))))))) (zaf (R_seq (R_ite (t := false) rfl (R_ff zau)) (zaf (R_seq (zks (E_of (zaO (zao (V_v rfl rfl) rfl) rfl f7) rfl) rfl) (zaf
    (R_seq (zag (E_of (V_op2 (V_v rfl rfl) (V_v rfl rfl) k1) rfl) rfl) (zaf (R_seq (zbf (l := []) rfl rfl rfl) (zaf (R_seq (R_for (I_of (zck (V_v rfl rfl) rfl rfl)) lp) (zaf (R_seq (R_seq (R_fz rfl rfl) (zaf (zag (E_of (V_v rfl rfl) rfl) rfl))) (zaf (R_seq (zag (E_of (V_op2 (V_v rfl rfl) (V_op2 (V_v rfl rfl) (V_v rfl rfl) k3) k4) rfl) rfl) (zaf (R_seq (R_ret k5) zan))))))))))))))))))⟩
theorem zh6 (h2 : fns 2 = some fn_fspath) (h7 : fns 7 = some fn_splitroot) (h9 : fns 9 = some fn_normpath) (h10 : fns 10 = some fn_abspath) (m : Nat) {ns : List (List Nat)} (h : ∀ w ∈ ns, Clean w) (hl : (told ns).length ≤ 100000) (hn : ns.length ≤ 100000) : callF fns (m + 4) 10 [.str (told ns)] = some (.str (told ns)) := by
  refine zbQ h10 (ρ := [.val (.str (told ns))]) rfl ?_
  show ∃ ρ', ex (callF fns (m + 3)) s_abspath _ = _
  have f1 := zb3 h2 (m + 2) (told ns)
  have f9 := zjq h2 h7 h9 m h hl hn
  have k3 : opF .startswith [.str (told ns), .str [47]] = some (.val (.bool true)) := by rw [zdG, decide_eq_true (by rfl)]
  unfold s_abspath
  exact ⟨_, R_seq (zag (E_of (zaO (zao (V_v rfl rfl) rfl) rfl f1) rfl) rfl) (zaf (R_seq (R_ite (t := false) (T_of (V_op2 (V_v rfl rfl) rfl rfl)) (R_ff (R_seq (R_ite (t := false) (T_of (V_not (p := true) (V_op2 (V_v rfl rfl) rfl k3))) (R_ff zau)) (zaf zau)))) (zaf (R_seq (R_ret (E_of (zaO (zao (V_v rfl rfl) rfl) rfl f9) rfl)) zan))))⟩
end
noncomputable def cpB : S := (.seq (.ite (.op .ne (.cons (.var 4) (.cons (.op .index (.cons (.var 2) (.cons (.var 3) .nil))) .nil))) (.seq (.ret (.op .slice (.cons (.var 1) (.cons (.const .none) (.cons (.var 3) .nil))))) .skip) .skip) .skip)
noncomputable abbrev Nms := List (List Nat)
noncomputable def cp : Nms → Nms → Nms
  | x :: a, y :: b => if x = y then x :: cp a b else []
  | _, _ => []
theorem zbN {x y : List Nat} {a b : Nms} : cp (x :: a) (y :: b) = if x = y then x :: cp a b else [] := rfl
theorem cp_nil {a : Nms} : cp a [] = [] := by cases a <;> rfl
theorem zdz : ∀ a b : Nms, cp a b = cp b a
  | [], [] => rfl
  | [], _ :: _ => rfl
  | _ :: _, [] => rfl
  | x :: a, y :: b => by
    rw [zbN, zbN]
    by_cases h : x = y
    · rw [if_pos h, if_pos h.symm, h, zdz a b]
    · rw [if_neg h, if_neg fun e => h e.symm]
theorem zh4 : ∀ a b : Nms, (cp a b).length ≤ a.length
  | [], _ => Nat.le_refl _
  | _ :: _, [] => Nat.zero_le _
  | x :: a, y :: b => by
    rw [zbN]
    split
    · exact Nat.succ_le_succ (zh4 a b)
    · exact Nat.zero_le _
theorem ltL_irr {a : List Nat} : ltL a a = false := decide_eq_false (List.lt_irrefl a)
theorem zk3 {a b : List Nat} (h : ltL a b = true) : ltL b a = false := decide_eq_false fun h2 => List.lt_asymm (of_decide_eq_true h) h2
theorem zjJ {a b : List Nat} (h : ltL a b = false) (h2 : ltL b a = false) : a = b := by
  have h1 : ¬ a < b := of_decide_eq_false h
  have h2 : ¬ b < a := of_decide_eq_false h2
  exact List.le_antisymm (List.not_lt.mp h2) (List.not_lt.mp h1)
theorem zcQ {x y : List Nat} {a b : Nms} : ltSs (x :: a) (y :: b) = if x = y then ltSs a b else ltL x y := by rw [ltSs]
theorem zhM : ∀ a : Nms, ltSs a a = false
  | [] => by rw [ltSs]
  | x :: a => by rw [zcQ, if_pos rfl, zhM a]
theorem zjH : ∀ {a b : Nms}, ltSs a b = true → ltSs b a = false
  | [], [], h => by rw [ltSs] at h; cases h
  | [], _ :: _, _ => by rw [ltSs]
  | _ :: _, [], h => by rw [ltSs] at h; cases h
  | x :: a, y :: b, h => by
    rw [zcQ] at h ⊢
    by_cases e : x = y
    · rw [if_pos e] at h
      rw [if_pos e.symm]
      exact zjH h
    · rw [if_neg e] at h
      rw [if_neg fun q => e q.symm]
      exact zk3 h
theorem zhL : ∀ {a b : Nms}, ltSs a b = false → ltSs b a = false → a = b
  | [], [], _, _ => rfl
  | [], _ :: _, h, _ => by rw [ltSs] at h; cases h
  | _ :: _, [], _, h => by rw [ltSs] at h; cases h
  | x :: a, y :: b, h, h2 => by
    rw [zcQ] at h h2
    by_cases e : x = y
    · rw [if_pos e] at h
      rw [if_pos e.symm] at h2
      rw [e, zhL h h2]
    · rw [if_neg e] at h
      rw [if_neg fun q => e q.symm] at h2
      exact absurd (zjJ h h2) e
theorem zhN {a b : Nms} : ltD (nD a) (nD b) = some (ltSs a b) := by
  show (match toStrs (a.map .str), toStrs (b.map .str) with | some x, some y => some (ltSs x y) | _, _ => none) = _
  rw [zcZ, zcZ]
theorem o_min2 {a b : Nms} : opF .min [.list [nD a, nD b]] = some (.val (nD (if ltSs b a = true then b else a))) := by
  show (bestGo ltD (nD a) [nD b]).map R.val = _
  unfold bestGo
  rw [zhN]
  cases ltSs b a <;> rfl
theorem o_max2 {a b : Nms} : opF .max [.list [nD a, nD b]] = some (.val (nD (if ltSs a b = true then b else a))) := by
  show (bestGo gtD (nD a) [nD b]).map R.val = _
  unfold bestGo
  rw [show gtD (nD b) (nD a) = some (ltSs a b) from zhN]
  cases ltSs a b <;> rfl
theorem zjo {l : List D} {n : Nat} (h : n ≤ 1000000) (hl : n ≤ l.length) : opF .slice [.list l, .int (n : Int), .none] = some (.own (l.drop n)) := by
  have e : bound (.int (n : Int)) 0 l.length = some (clip (n : Int) l.length) := by
    show (if small (n : Int) = true then some (clip (n : Int) l.length) else none) = _
    rw [if_pos (zaG h)]
  show (match bound (.int (n : Int)) 0 l.length, bound .none l.length l.length with
    | some lo, some hi => some (R.own (cut l lo hi))
    | _, _ => none) = _
  rw [e]
  show some (R.own (cut l (clip (n : Int) l.length) l.length)) = _
  rw [zbG hl]
  unfold cut
  rw [List.take_of_length_le (by rw [List.length_drop]; exact Nat.le_refl _)]
theorem rep1 {x : D} : ∀ n : Nat, (List.replicate n [x]).flatten = List.replicate n x
  | 0 => rfl
  | n + 1 => congrArg (x :: ·) (rep1 n)
theorem zlr {x : D} {n : Nat} (h : n ≤ 1000000) : opF .mul [.list [x], .int (n : Int)] = some (.own (List.replicate n x)) := by
  show (if (small (n : Int) && decide (([x] : List D).length * (n : Int).toNat ≤ lim)) = true then some (R.own (rep [x] (n : Int))) else none) = _
  rw [if_pos]
  · unfold rep
    rw [Int.toNat_natCast, rep1]
  · rw [Bool.and_eq_true, decide_eq_true_eq, Int.toNat_natCast]
    exact ⟨zaG h, by rw [List.length_singleton, Nat.one_mul]; exact h⟩
inductive CpO (s1 : Nms) (p u v : Nms) (x0 : Slot) (s2 : Nms) : Option (List Slot × Out) → Prop
  | ret {ρ' : List Slot} : CpO s1 p u v x0 s2 (some (ρ', .ret (nD (p ++ cp u v))))
  | all {x3 x4 : Slot} : cp u v = u → CpO s1 p u v x0 s2 (some ([x0, .val (nD s1), .val (nD s2), x3, x4], .next))
section
variable {cf : Nat → List D → Option D} {x0 x3 x4 : Slot}
theorem cp_loop : ∀ (u v p : Nms) (x3 x4 : Slot), (p ++ u).length ≤ 100000 → ltSs v u = false → CpO (p ++ u) p u v x0 (p ++ v) (forGo (put2 3 4) (ex cf cpB) (enumL (p.length : Int) (u.map .str)) [x0, .val (nD (p ++ u)), .val (nD (p ++ v)), x3, x4]) := by
  intro u
  induction u with
  | nil => intro v p x3 x4 _ _; exact .all rfl
  | cons c u ih =>
    intro v p x3 x4 hl hlt
    cases v with
    | nil => rw [ltSs] at hlt; cases hlt
    | cons d v =>
      have hp : p.length ≤ 1000000 := by
        rw [List.length_append] at hl
        exact Nat.le_trans (Nat.le_trans (Nat.le_add_right _ _) hl) (by decide)
      have h1 : opF .index [nD (p ++ d :: v), .int (p.length : Int)] = some (.val (.str d)) := zbK (by rw [List.map_append, List.getElem?_append_right (by rw [List.length_map]; exact Nat.le_refl _), List.length_map, Nat.sub_self]; rfl) hp
      have h2 : opF .ne [.str c, .str d] = some (.val (.bool (!decide (c = d)))) := ne_str c d
      have h3 : opF .slice [nD (p ++ c :: u), .none, .int (p.length : Int)] = some (.own (p.map .str)) := by
        have := zfD (l := (p ++ c :: u).map D.str) (n := p.length) hp (by rw [List.length_map, List.length_append]; exact Nat.le_add_right _ _)
        rw [← List.map_take, List.take_left' rfl] at this
        exact this
      have t : ∀ {ρ1 o res}, ex cf cpB [x0, .val (nD (p ++ c :: u)), .val (nD (p ++ d :: v)), .val (.int (p.length : Int)), .val (.str c)] = some (ρ1, o) → fOut cf (put2 3 4) cpB (enumL ((p.length : Int) + 1) (u.map .str)) ρ1 o = res →
          forGo (put2 3 4) (ex cf cpB) (enumL (p.length : Int) ((c :: u).map .str)) [x0, .val (nD (p ++ c :: u)), .val (nD (p ++ d :: v)), x3, x4] = res := fun e1 e2 => zaK (st := put2 3 4) rfl e1 e2
      by_cases hcd : c = d
      · subst hcd
        rw [zcQ, if_pos rfl] at hlt
        have e1 : ex cf cpB [x0, .val (nD (p ++ c :: u)), .val (nD (p ++ c :: v)), .val (.int (p.length : Int)), .val (.str c)] = some ([x0, .val (nD (p ++ c :: u)), .val (nD (p ++ c :: v)), .val (.int (p.length : Int)), .val (.str c)], .next) := by
          rw [decide_eq_true rfl] at h2
          unfold cpB
          exact R_seq (R_ite (t := false) (T_of (V_op2 (V_v rfl rfl) (V_op2 (V_v rfl rfl) (V_v rfl rfl) h1) h2)) (R_ff zau)) (zaf zau)
        have := ih v (p ++ [c]) (.val (.int (p.length : Int))) (.val (.str c)) (by rw [List.append_assoc]; exact hl) hlt
        rw [List.length_append, List.append_assoc, List.append_assoc] at this
        change CpO (p ++ c :: u) (p ++ [c]) u v x0 (p ++ c :: v) (forGo (put2 3 4) (ex cf cpB) (enumL ((p.length : Int) + 1) (u.map .str)) [x0, .val (nD (p ++ c :: u)), .val (nD (p ++ c :: v)), .val (.int (p.length : Int)), .val (.str c)]) at this
        rw [t e1 (zbt rfl)]
        generalize forGo (put2 3 4) (ex cf cpB) (enumL ((p.length : Int) + 1) (u.map .str)) [x0, .val (nD (p ++ c :: u)), .val (nD (p ++ c :: v)), .val (.int (p.length : Int)), .val (.str c)] = res at this
        cases this with
        | ret =>
          rw [List.append_assoc, show [c] ++ cp u v = cp (c :: u) (c :: v) by rw [zbN, if_pos rfl]; rfl]
          exact .ret
        | all e => exact .all (by rw [zbN, if_pos rfl, e])
      · have e1 : ex cf cpB [x0, .val (nD (p ++ c :: u)), .val (nD (p ++ d :: v)), .val (.int (p.length : Int)), .val (.str c)] = some ([x0, .val (nD (p ++ c :: u)), .val (nD (p ++ d :: v)), .val (.int (p.length : Int)), .val (.str c)], .ret (nD p)) := by
          rw [decide_eq_false hcd] at h2
          unfold cpB
          exact R_seq (R_ite (t := true) (T_of (V_op2 (V_v rfl rfl) (V_op2 (V_v rfl rfl) (V_v rfl rfl) h1) h2)) (R_tt (R_seq (R_ret (E_of (V_op3 (V_v rfl rfl) rfl (V_v rfl rfl) h3) rfl)) zan))) zan
        rw [t e1 zeE]
        have e2 : nD p = nD (p ++ cp (c :: u) (d :: v)) := by rw [zbN, if_neg hcd, List.append_nil]
        rw [e2]
        exact .ret
end
section
variable {fns : Nat → Option Fn}
theorem zex (h12 : fns 12 = some fn_commonprefix) (m : Nat) {a b : Nms} (ha : a.length ≤ 100000) (hb : b.length ≤ 100000) : callF fns (m + 1) 12 [.list [nD a, nD b]] = some (nD (cp a b)) := by
  refine zbQ h12 (ρ := [.val (.list [nD a, nD b]), .unset, .unset, .unset, .unset]) rfl ?_
  show ∃ ρ', ex (callF fns m) s_commonprefix _ = _
  generalize callF fns m = cf
  obtain ⟨s1, s2, e1, e2, hlt, hl, hc⟩ : ∃ s1 s2, (if ltSs b a = true then b else a) = s1 ∧ (if ltSs a b = true then b else a) = s2 ∧ ltSs s2 s1 = false ∧ s1.length ≤ 100000 ∧ cp s1 s2 = cp a b := by
    refine ⟨_, _, rfl, rfl, ?_⟩
    by_cases h1 : ltSs b a = true
    · have h2 := zjH h1
      rw [if_pos h1, if_neg (by rw [h2]; simp)]
      exact ⟨h2, hb, zdz b a⟩
    · have h1' : ltSs b a = false := by simpa using h1
      rw [if_neg h1]
      by_cases h2 : ltSs a b = true
      · rw [if_pos h2]
        exact ⟨h1', ha, rfl⟩
      · have h2' : ltSs a b = false := by simpa using h2
        rw [if_neg h2]
        have := zhL h2' h1'
        subst this
        exact ⟨zhM a, ha, rfl⟩
  have k1 : opF .min [.list [nD a, nD b]] = some (.val (nD s1)) := by rw [o_min2, e1]
  have k2 : opF .max [.list [nD a, nD b]] = some (.val (nD s2)) := by rw [o_max2, e2]
  have ei : evI cf (.enumI (.var 1)) [.val (.list [nD a, nD b]), .val (nD s1), .val (nD s2), .unset, .unset] = some (enumL (0 : Int) (s1.map .str)) := rfl
  have c1 : evT cf (.not (.var 0)) [.val (.list [nD a, nD b]), .unset, .unset, .unset, .unset] = some false := rfl
  have c2 : evT cf (.not (.op .isInst (.cons (.op .index (.cons (.var 0) (.cons (.const (.int 0)) .nil))) (.cons (.tup (.cons (.const (.ty "list")) (.cons (.const (.ty "tuple")) .nil))) .nil)))) [.val (.list [nD a, nD b]), .unset, .unset, .unset, .unset] = some false := rfl
  have a1 : ev1 cf (.op .min (.cons (.var 0) .nil)) [.val (.list [nD a, nD b]), .unset, .unset, .unset, .unset] = some (nD s1) := E_of (V_op1 (V_v rfl rfl) k1) rfl
  have a2 : ev1 cf (.op .max (.cons (.var 0) .nil)) [.val (.list [nD a, nD b]), .val (nD s1), .unset, .unset, .unset] = some (nD s2) := E_of (V_op1 (V_v rfl rfl) k2) rfl
  have hgo : ∃ ρ', ex cf (.seq (.forE2 3 4 (.enumI (.var 1)) cpB) (.seq (.ret (.var 1)) .skip)) [.val (.list [nD a, nD b]), .val (nD s1), .val (nD s2), .unset, .unset] = some (ρ', .ret (nD (cp a b))) := by
    have lp : CpO s1 [] s1 s2 (.val (.list [nD a, nD b])) s2 (forGo (put2 3 4) (ex cf cpB) (enumL (0 : Int) (s1.map .str)) [.val (.list [nD a, nD b]), .val (nD s1), .val (nD s2), .unset, .unset]) := by
      exact cp_loop (cf := cf) (x0 := .val (.list [nD a, nD b])) s1 s2 [] .unset .unset hl hlt
    generalize hres : forGo (put2 3 4) (ex cf cpB) (enumL (0 : Int) (s1.map .str)) [.val (.list [nD a, nD b]), .val (nD s1), .val (nD s2), .unset, .unset] = res at lp
    cases lp with
    | ret =>
      rw [List.nil_append, hc] at hres
      exact ⟨_, R_seq (zkr ei hres) zan⟩
    | all e =>
      rw [hc] at e
      refine ⟨_, R_seq (zkr ei hres) (zaf (R_seq (R_ret (d := nD (cp a b)) ?_) zan))⟩
      rw [e]; rfl
  obtain ⟨ρ', hgo⟩ := hgo
  unfold cpB at hgo
  unfold s_commonprefix
  exact ⟨ρ', R_seq (R_ite c1 (R_ff zau)) (zaf (R_seq (R_ite c2 (R_ff zau)) (zaf (R_seq (zag a1 rfl) (zaf (R_seq (zag a2 rfl) (zaf hgo)))))))⟩
end
noncomputable def relL (a b : Nms) : Nms := List.replicate (b.length - (cp b a).length) [46, 46] ++ a.drop (cp b a).length
noncomputable def relT (a b : Nms) : List Nat := if relL a b = [] then [46] else joinL [47] (relL a b)
theorem zeo {ns : Nms} (h : ∀ w ∈ ns, NameOK w) : opF .lstrip [.str (told ns), .str [47]] = some (.val (.str (joinL [47] ns))) := by
  rw [zkS]
  unfold told
  rw [List.dropWhile_cons_of_pos (by rfl)]
  cases e : joinL [47] ns with
  | nil => rfl
  | cons c t =>
    rw [List.dropWhile_cons_of_neg]
    intro q
    have hc : c = 47 := by simpa using q
    exact zdw h (by rw [e, hc]; rfl)
theorem zh9 {ns : Nms} (h : ∀ w ∈ ns, NameOK w) : (D.str (joinL [47] ns)).truth = some (!decide (ns = [])) := by
  show some (!(joinL [47] ns).isEmpty) = _
  by_cases h0 : ns = []
  · subst h0; rfl
  · rw [decide_eq_false h0]
    have := zhQ h0 h
    cases e : joinL [47] ns with
    | nil => exact absurd e this
    | cons _ _ => rfl
theorem zfy {a b : Nms} : ∀ w ∈ relL a b, w = [46, 46] ∨ w ∈ a := by
  intro w hw
  rcases List.mem_append.mp hw with h | h
  · exact .inl (List.mem_replicate.mp h).2
  · exact .inr (List.mem_of_mem_drop h)
theorem zbL : ∀ (ns : Nms) (k : Nat), (∀ w ∈ ns, w.length ≤ k) → (joinL [47] ns).length ≤ (k + 1) * ns.length
  | [], _, _ => Nat.zero_le _
  | [x], k, h => Nat.le_trans (Nat.le_succ_of_le (h x List.mem_cons_self)) (Nat.le_of_eq (Nat.mul_one _).symm)
  | x :: y :: r, k, h => by
    have h1 := h x List.mem_cons_self
    have h2 := zbL (y :: r) k fun w hw => h w (List.mem_cons_of_mem _ hw)
    rw [zer, List.length_cons (a := x), Nat.mul_succ, List.length_append, List.length_append, Nat.add_comm]
    exact Nat.add_le_add h2 (Nat.succ_le_succ h1)
section
variable {fns : Nat → Option Fn}
theorem ziT {cf : Nat → List D → Option D} {ρ : List Slot} {i : Nat} {ns : Nms} (h : ∀ w ∈ ns, NameOK w) (hl : (joinL [47] ns).length + 2 ≤ lim) (g : ρ[i]? = some (.val (.str (joinL [47] ns)))) (g3 : ρ[3]? = some (.val (.str [47]))) :
    ev1 cf (.ite (.var i) (.op .split (.cons (.var i) (.cons (.var 3) .nil))) (.list .nil)) ρ = some (nD ns) := by
  have t := zh9 h
  rw [zcJ, zbq, zbo, g]
  show one (match (D.str (joinL [47] ns)).truth with
    | some true => _
    | some false => _
    | none => none) = _
  rw [t]
  by_cases h0 : ns = []
  · subst h0
    rfl
  · rw [decide_eq_false h0]
    have k := zha (l := joinL [47] ns) hl
    rw [sp_of h0 fun w hw => (h w hw).2] at k
    exact congrArg one (V_op2 (V_v g rfl) (V_v g3 rfl) k)
theorem zik (h2 : fns 2 = some fn_fspath) (h7 : fns 7 = some fn_splitroot) (h9 : fns 9 = some fn_normpath) (h10 : fns 10 = some fn_abspath) (h11 : fns 11 = some fn_relpath) (h12 : fns 12 = some fn_commonprefix) (m : Nat) {a b : Nms} (ha : ∀ w ∈ a, Clean w) (hb : ∀ w ∈ b, Clean w)
    (la : a.length ≤ 1000) (lb : b.length ≤ 1000) (wa : ∀ w ∈ a, w.length ≤ 90) (wb : ∀ w ∈ b, w.length ≤ 90) : callF fns (m + 5) 11 [.str (told a), .str (told b)] = some (.str (relT a b)) := by
  have na : ∀ w ∈ a, NameOK w := fun w hw => (ha w hw).nm
  have nb : ∀ w ∈ b, NameOK w := fun w hw => (hb w hw).nm
  have jl : ∀ {n : Nms}, n.length ≤ 2000 → (∀ w ∈ n, w.length ≤ 90) → (joinL [47] n).length ≤ 182000 := fun {n} h1 h2 => Nat.le_trans (zbL n 90 h2) (Nat.mul_le_mul_left 91 h1)
  have tl : ∀ {n : Nms}, n.length ≤ 1000 → (∀ w ∈ n, w.length ≤ 90) → (told n).length ≤ 100000 := fun {n} h1 h2 => Nat.le_trans (Nat.succ_le_succ (zbL n 90 h2)) (Nat.le_trans (Nat.succ_le_succ (Nat.mul_le_mul_left 91 h1)) (by decide))
  have ta := tl la wa
  have tb := tl lb wb
  refine zbQ h11 (ρ := [.val (.str (told a)), .val (.str (told b)), .unset, .unset, .unset, .unset, .unset, .unset, .unset, .unset, .unset]) rfl ?_
  show ∃ ρ', ex (callF fns (m + 4)) s_relpath _ = _
  have f2 := fun l => zb3 h2 (m + 3) l
  have fa := zh6 h2 h7 h9 h10 m ha ta (Nat.le_trans la (by decide))
  have fb := zh6 h2 h7 h9 h10 m hb tb (Nat.le_trans lb (by decide))
  have fc := zex h12 (m + 3) (a := b) (b := a) (Nat.le_trans lb (by decide)) (Nat.le_trans la (by decide))
  generalize callF fns (m + 4) = cf at *
  have hi1 : (cp b a).length ≤ b.length := zh4 b a
  have hi2 : (cp b a).length ≤ a.length := by rw [zdz]; exact zh4 a b
  have km : ∀ {n : Nms}, opF .len [nD n] = some (.val (.int (n.length : Int))) := fun {n} => by
    show some (R.val (.int ((n.map D.str).length : Int))) = _
    rw [List.length_map]
  have k5 : opF .sub [.int (b.length : Int), .int ((cp b a).length : Int)] = some (.val (.int ((b.length - (cp b a).length : Nat) : Int))) := by
    show some (R.val (.int ((b.length : Int) - ((cp b a).length : Int)))) = _
    rw [Int.ofNat_sub hi1]
  have k6 := zlr (x := .str [46, 46]) (n := b.length - (cp b a).length) (Nat.le_trans (Nat.sub_le _ _) (Nat.le_trans lb (by decide)))
  have k7 : opF .slice [nD a, .int ((cp b a).length : Int), .none] = some (.own ((a.map D.str).drop (cp b a).length)) := zjo (Nat.le_trans hi2 (Nat.le_trans la (by decide))) (by rw [List.length_map]; exact hi2)
  have lr : (relL a b).length ≤ 1000 + 1000 := by
    unfold relL
    rw [List.length_append, List.length_replicate, List.length_drop]
    exact Nat.add_le_add (Nat.le_trans (Nat.sub_le _ _) lb) (Nat.le_trans (Nat.sub_le _ _) la)
  have k8 : opF .add [.list (List.replicate (b.length - (cp b a).length) (.str [46, 46])), .list ((a.map D.str).drop (cp b a).length)] = some (.own ((relL a b).map .str)) := by
    have e : (relL a b).map D.str = List.replicate (b.length - (cp b a).length) (.str [46, 46]) ++ (a.map D.str).drop (cp b a).length := by
      unfold relL
      rw [List.map_append, List.map_replicate, List.map_drop]
    rw [e]
    refine zjp ?_
    rw [← List.length_append, ← e, List.length_map]
    exact Nat.le_trans lr (by decide)
  have k9 := zej (ls := relL a b) (Nat.le_trans (jl lr fun w hw => by
    rcases zfy w hw with rfl | h
    · decide
    · exact wa w h) (by decide))
  have key : ∃ ρ', ex cf (.seq (.ite (.not (.var 10)) (.seq (.ret (.var 2)) .skip) .skip) (.seq (.ret (.op .join (.cons (.var 3) (.cons (.var 10) .nil)))) .skip)) [.val (.str (told a)), .val (.str (told b)), .val (.str [46]), .val (.str [47]), .val (.str [46, 46]), .val (.str (joinL [47] b)), .val (.str (joinL [47] a)), .val (nD b), .val (nD a), .val (.int ((cp b a).length : Int)), .val (.list ((relL a b).map .str))] = some (ρ', .ret (.str (relT a b))) := by
    unfold relT
    by_cases h0 : relL a b = []
    · rw [if_pos h0, h0]
      exact ⟨_, R_seq (R_ite (t := true) rfl (R_tt (R_seq (R_ret rfl) zan))) zan⟩
    · rw [if_neg h0]
      refine ⟨_, R_seq (R_ite (t := false) ?_ (R_ff zau)) (zaf (R_seq (R_ret (E_of (V_op2 (V_v rfl rfl) (V_v rfl rfl) k9) rfl)) zan))⟩
      rw [zb4, za8, V_v rfl rfl]
      cases e : relL a b with
      | nil => exact absurd e h0
      | cons _ _ => rfl
  obtain ⟨ρ', key⟩ := key
  have ev7 := ziT (cf := cf) (ρ := [.val (.str (told a)), .val (.str (told b)), .val (.str [46]), .val (.str [47]), .val (.str [46, 46]), .val (.str (joinL [47] b)), .val (.str (joinL [47] a)), .unset, .unset, .unset, .unset]) (i := 5) nb (Nat.le_trans (Nat.succ_le_succ tb) (by decide)) rfl rfl
  have ev8 := ziT (cf := cf) (ρ := [.val (.str (told a)), .val (.str (told b)), .val (.str [46]), .val (.str [47]), .val (.str [46, 46]), .val (.str (joinL [47] b)), .val (.str (joinL [47] a)), .val (nD b), .unset, .unset, .unset]) (i := 6) na (Nat.le_trans (Nat.succ_le_succ ta) (by decide)) rfl rfl
  unfold s_relpath
  exact ⟨ρ', R_seq (zag (E_of (zaO (zao (V_v rfl rfl) rfl) rfl (f2 _)) rfl) rfl) (zaf (R_seq (R_ite (t := false) rfl (R_ff zau)) (zaf (R_seq (R_ite (t := false) (T_of (V_op2 (V_v rfl rfl) rfl rfl)) (R_ff (R_seq (zag rfl rfl) (zaf (R_seq (zag rfl rfl) (zaf (R_seq (zag rfl rfl) (zaf zau)))))))) (zaf (R_seq (R_ite (t := false) (T_of (V_op2 (V_v rfl rfl) rfl rfl)) (R_ff (R_seq (zag (E_of (zaO (zao (V_v rfl rfl) rfl) rfl (f2 _)) rfl) rfl) (zaf zau)))) (zaf
    (R_seq (R_try (R_seq (zag (E_of (V_op2 (zaO (zao (V_v rfl rfl) rfl) rfl fb) (V_v rfl rfl) (zeo nb)) rfl) rfl) (zaf (R_seq (zag (E_of (V_op2 (zaO (zao (V_v rfl rfl) rfl) rfl fa) (V_v rfl rfl) (zeo na)) rfl) rfl) (zaf (R_seq (zag ev7 rfl) (zaf (R_seq (zag ev8 rfl) (zaf (R_seq (zag (E_of (V_op1 (zaO (zao (zht (V_v rfl rfl) (V_v rfl rfl)) rfl) rfl fc) km) rfl) rfl) (zaf (R_seq (zag (E_of (V_op2 (V_op2 (V_list1 (V_v rfl rfl) rfl) (V_op2 (V_op1 (V_v rfl rfl) km) (V_v rfl rfl) k5) k6) (V_op3 (V_v rfl rfl) (V_v rfl rfl) rfl k7) k8) rfl) rfl) (zaf key))))))))))))) zan))))))))⟩
end
noncomputable def wd8 : List (List Nat) := [[97], [98], [42], [97, 91], [91, 33, 97, 93]]
set_option genInjectivity false in
structure N8 (ns : Nm) : Prop where
  len : ns.length ≤ 4
  wd : ∀ w ∈ ns, w ∈ wd8
theorem clean8 : ∀ w ∈ wd8, Clean w := by
  have h : ∀ w ∈ wd8, w ≠ [] ∧ 47 ∉ w ∧ w ≠ [46] ∧ w ≠ [46, 46] ∧ w.length ≤ 4 ∧ ∀ c ∈ w, c ∈ sg8 := by decide
  intro w hw
  obtain ⟨h1, h2, h3, h4, _⟩ := h w hw
  constructor <;> assumption
theorem word8 : ∀ w ∈ wd8, w.length ≤ 4 ∧ ∀ c ∈ w, c ∈ sg8 := by decide
theorem N8.cl {ns : Nm} (h : N8 ns) : ∀ w ∈ ns, Clean w := fun w hw => clean8 w (h.wd w hw)
theorem N8.nm {ns : Nm} (h : N8 ns) : ∀ w ∈ ns, NameOK w := fun w hw => (h.cl w hw).nm
theorem N8.take {ns : Nm} (h : N8 ns) (k : Nat) : N8 (ns.take k) := ⟨Nat.le_trans (List.length_take_le' _ _) h.len, fun w hw => h.wd w (List.mem_of_mem_take hw)⟩
theorem N8.jl {ns : Nm} (h : N8 ns) : (joinL [47] ns).length ≤ 20 := Nat.le_trans (zbL ns 4 fun w hw => (word8 w (h.wd w hw)).1) (Nat.mul_le_mul_left 5 h.len)
theorem N8.tl {ns : Nm} (h : N8 ns) : (told ns).length ≤ 21 := Nat.succ_le_succ h.jl
theorem N8.sg {ns : Nm} (h : N8 ns) : ∀ c ∈ told ns, c ∈ sg8 := by
  intro c hc
  rcases List.mem_cons.mp hc with rfl | hc
  · decide
  · rcases zeq hc with hc | ⟨x, hx, hc⟩
    · rw [List.mem_singleton.mp hc]; decide
    · exact (word8 x (h.wd x hx)).2 c hc
noncomputable def cd (c : Nat) : Nat := [97, 98, 46, 33, 93, 47, 42, 91].idxOf c
noncomputable def tq (t : List Nat) : List Nat := t.map cd
theorem cd8 : ∀ c ∈ sg8, cd c < 9 ∧ aC (cd c) = [c] := by decide
theorem tq_lt {t : List Nat} (h : ∀ c ∈ t, c ∈ sg8) : ∀ k ∈ tq t, k < 11 := fun k hk => by
  obtain ⟨c, hc, rfl⟩ := List.mem_map.mp hk
  exact Nat.lt_trans (cd8 c (h c hc)).1 (by decide)
theorem mt_tq : ∀ {t ks w : List Nat}, (∀ c ∈ t, c ∈ sg8) → (Mt (tq t ++ ks) w ↔ ∃ r, w = t ++ r ∧ Mt ks r)
  | [], ks, w, _ => ⟨fun h => ⟨w, rfl, h⟩, fun ⟨r, e, h⟩ => e ▸ h⟩
  | c :: t, ks, w, h => by
    obtain ⟨h1, h2⟩ := cd8 c (h c List.mem_cons_self)
    have ih := fun w => mt_tq (t := t) (ks := ks) (w := w) fun d hd => h d (List.mem_cons_of_mem _ hd)
    show Mt (cd c :: (tq t ++ ks)) w ↔ _
    rw [Mt.one_iff (Nat.ne_of_lt h1), h2]
    constructor
    · rintro ⟨d, v, rfl, hd, hm⟩
      obtain ⟨r, rfl, hr⟩ := (ih v).mp hm
      rw [List.mem_singleton.mp hd]
      exact ⟨r, rfl, hr⟩
    · rintro ⟨r, rfl, hr⟩
      exact ⟨c, t ++ r, rfl, List.mem_singleton.mpr rfl, (ih _).mpr ⟨r, rfl, hr⟩⟩
theorem zhJ {t w : List Nat} (h : ∀ c ∈ t, c ∈ sg8) : Mt (tq t ++ [5, 9]) w ↔ ∃ r, w = t ++ 47 :: r := by
  rw [mt_tq h]
  constructor
  · rintro ⟨r, rfl, hr⟩
    obtain ⟨c, v, rfl, hc, _⟩ := (Mt.one_iff (by decide)).mp hr
    rw [List.mem_singleton.mp (show c ∈ [47] from hc)]
    exact ⟨v, rfl⟩
  · rintro ⟨r, rfl⟩
    refine ⟨_, rfl, .one (by decide) (List.mem_singleton.mpr rfl) ?_⟩
    have := Mt.star (as := []) (u := r) (v := []) .nil
    rwa [List.append_nil] at this
theorem joinG {α : Type} (f : α → List Nat) : ∀ l : List α, joinL [] (l.map f) = l.flatMap f
  | [] => rfl
  | [a] => (List.append_nil _).symm
  | a :: b :: l => by
    show f a ++ [] ++ joinL [] ((b :: l).map f) = f a ++ (b :: l).flatMap f
    rw [joinG f (b :: l), List.append_nil]
theorem o_joinG {α : Type} {f : α → List Nat} {l : List α} (h : (l.flatMap f).length ≤ lim) : opF .join [.str [], .list (l.map fun a => .str (f a))] = some (.val (.str (l.flatMap f))) := by
  show (match toStrs (l.map fun a => .str (f a)) with
    | some ls => if (joinL [] ls).length ≤ lim then some (R.val (.str (joinL [] ls))) else none
    | none => none) = _
  have e : toStrs (l.map fun a => .str (f a)) = some (l.map f) := by
    have := zcZ (l.map f)
    rwa [List.map_map] at this
  rw [e]
  simp only [joinG]
  rw [if_pos h]
theorem qt8 (cf : Nat → List D → Option D) (x : Slot) : sg8.map (fun c => ev cf (.ite (.op .in_ (.cons (.var 1) (.cons (.const (.str [42, 63, 91])) .nil))) (.op .add (.cons (.op .add (.cons (.const (.str [91])) (.cons (.var 1) .nil))) (.cons (.const (.str [93])) .nil))) (.var 1)) [x, .val (.str [c])]) = sg8.map fun c => some [.val (.str (aT (cd c)))] := by kernel_rfl
theorem quoted8 (m : Nat) {t : List Nat} (h : ∀ c ∈ t, c ∈ sg8) (hl : t.length ≤ 50) : callF fns08 (m + 1) 26 [.str t] = some (.str (tx (tq t))) := by
  refine zbQ (fn := fn_law_quoted) rfl (ρ := [.val (.str t), .unset]) rfl ?_
  show ∃ ρ', ex (callF fns08 m) s_law_quoted _ = _
  have hx := ziP (tq_lt h)
  have e : tx (tq t) = t.flatMap fun c => aT (cd c) := List.flatMap_map ..
  rw [e] at hx ⊢
  unfold s_law_quoted
  exact ⟨_, R_seq (R_ret (E_of (V_op2 rfl (zeD (g := fun c => .str [c]) (l := t) (v := fun c => .str (aT (cd c))) (zck (d := .str t) rfl rfl rfl) fun c hc => ⟨_, zfi (qt8 _ _) (h c hc), rfl⟩) (o_joinG (f := fun c => aT (cd c)) (Nat.le_trans hx (Nat.le_trans (Nat.mul_le_mul_left 6 (by unfold tq; rw [List.length_map]; exact hl)) (by decide))))) rfl)) zan⟩
theorem told8 (m : Nat) {ns : Nm} (h : N8 ns) : callF fns08 (m + 1) 33 [nD ns] = some (.str (told ns)) := by
  refine zbQ (fn := fn_law_told) rfl (ρ := [.val (nD ns)]) rfl ?_
  show ∃ ρ', ex (callF fns08 m) s_law_told _ = _
  unfold s_law_told
  exact ⟨_, R_seq (R_ret (E_of (V_op2 rfl (V_op2 rfl rfl (zej (Nat.le_trans h.jl (by decide)))) (zc5 (Nat.le_trans (Nat.add_le_add_left h.jl 1) (by decide)))) rfl)) zan⟩
theorem zjI {a b c : List Nat} (h : ltL a b = true) (h2 : ltL b c = true) : ltL a c = true := decide_eq_true (List.lt_trans (of_decide_eq_true h) (of_decide_eq_true h2))
theorem lt_trans : ∀ {a b c : Nms}, ltSs a b = true → ltSs b c = true → ltSs a c = true
  | _, [], [], _, h => by rw [ltSs] at h; cases h
  | _, _ :: _, [], _, h => by rw [ltSs] at h; cases h
  | [], [], _, h, _ => by rw [ltSs] at h; cases h
  | _ :: _, [], _, h, _ => by rw [ltSs] at h; cases h
  | [], _, _ :: _, _, _ => by rw [ltSs]
  | x :: a, y :: b, z :: c, h, h2 => by
    rw [zcQ] at h h2 ⊢
    by_cases e : x = y
    · subst e
      rw [if_pos rfl] at h
      by_cases e2 : x = z
      · rw [if_pos e2] at h2 ⊢
        exact lt_trans h h2
      · rw [if_neg e2] at h2 ⊢
        exact h2
    · rw [if_neg e] at h
      by_cases e2 : y = z
      · subst e2
        rw [if_neg e]
        exact h
      · rw [if_neg e2] at h2
        have := zjI h h2
        rw [if_neg fun e3 => by rw [e3, ltL_irr] at this; cases this]
        exact this
set_option genInjectivity false in
structure Ord (lt : Nms → Nms → Bool) (better : D → D → Option Bool) : Prop where
  tr : ∀ {a b c}, lt a b = true → lt b c = true → lt a c = true
  tot : ∀ {a b}, lt a b = false → lt b a = false → a = b
  irr : ∀ a, lt a a = false
  is : ∀ a b, better (nD a) (nD b) = some (lt a b)
theorem ordL : Ord ltSs ltD := ⟨lt_trans, zhL, zhM, fun _ _ => zhN⟩
theorem ordG : Ord (fun a b => ltSs b a) gtD := ⟨fun h h2 => lt_trans h2 h, fun h h2 => zhL h2 h, zhM, fun _ _ => zhN⟩
theorem zfY {lt : Nms → Nms → Bool} {better : D → D → Option Bool} (O : Ord lt better) : ∀ {l : List Nms} {a : Nms}, ∃ s, bestGo better (nD a) (l.map nD) = some (nD s) ∧ s ∈ a :: l ∧ ∀ n ∈ a :: l, lt n s = false
  | [], a => ⟨a, rfl, List.mem_cons_self, fun n h => by cases List.mem_singleton.mp h; exact O.irr a⟩
  | d :: l, a => by
    have get : ∀ {x y : Nms}, (∀ s, lt x s = false → lt y x = false → lt y s = false) := fun {x y} s h1 h2 => by
      cases e : lt y s
      · rfl
      · cases e2 : lt s x
        · rw [O.tot h1 e2] at h2
          rw [h2] at e; cases e
        · rw [O.tr e e2] at h2; cases h2
    rw [List.map_cons]
    unfold bestGo
    rw [O.is]
    cases e : lt d a
    · obtain ⟨s, h1, h2, h3⟩ := zfY O (l := l) (a := a)
      have ha := h3 a List.mem_cons_self
      refine ⟨s, h1, ?_, fun n hn => ?_⟩
      · rcases List.mem_cons.mp h2 with h | h
        · rw [h]; exact List.mem_cons_self
        · exact List.mem_cons_of_mem _ (List.mem_cons_of_mem _ h)
      · rcases List.mem_cons.mp hn with rfl | hn
        · exact ha
        · rcases List.mem_cons.mp hn with rfl | hn
          · exact get s ha e
          · exact h3 n (List.mem_cons_of_mem _ hn)
    · obtain ⟨s, h1, h2, h3⟩ := zfY O (l := l) (a := d)
      refine ⟨s, h1, List.mem_cons_of_mem _ h2, fun n hn => ?_⟩
      rcases List.mem_cons.mp hn with rfl | hn
      · refine get s (h3 d List.mem_cons_self) ?_
        cases e2 : lt n d
        · rfl
        · rw [← O.irr n]; exact (O.tr e2 e).symm
      · exact h3 n hn
set_option genInjectivity false in
structure IsCp (L : List Nms) (p : Nms) : Prop where
  pre : ∀ n ∈ L, p <+: n
  top : ∀ q, (∀ n ∈ L, q <+: n) → q <+: p
theorem zh3 : ∀ {q a b : Nms}, q <+: a → q <+: b → q <+: cp a b
  | [], _, _, _, _ => List.nil_prefix
  | c :: q, [], _, h, _ => absurd (List.prefix_nil.mp h) (List.cons_ne_nil _ _)
  | c :: q, _, [], _, h => absurd (List.prefix_nil.mp h) (List.cons_ne_nil _ _)
  | c :: q, x :: a, y :: b, h1, h2 => by
    obtain ⟨e1, h1⟩ := List.cons_prefix_cons.mp h1
    obtain ⟨e2, h2⟩ := List.cons_prefix_cons.mp h2
    rw [zbN, if_pos (e1 ▸ e2), e1]
    exact List.cons_prefix_cons.mpr ⟨rfl, zh3 h1 h2⟩
theorem zlz : ∀ {a b n : Nms}, ltSs n a = false → ltSs b n = false → cp a b <+: n
  | [], _, _, _, _ => List.nil_prefix
  | _ :: _, [], _, _, _ => by rw [cp_nil]; exact List.nil_prefix
  | x :: a, y :: b, [], h, _ => by rw [ltSs] at h; cases h
  | x :: a, y :: b, z :: n, h1, h2 => by
    rw [zbN]
    by_cases e : x = y
    · subst e
      rw [if_pos rfl]
      rw [zcQ] at h1 h2
      by_cases e : x = z
      · subst e
        rw [if_pos rfl] at h1 h2
        exact List.cons_prefix_cons.mpr ⟨rfl, zlz h1 h2⟩
      · rw [if_neg fun q => e q.symm] at h1
        rw [if_neg e] at h2
        exact absurd (zjJ h2 h1) e
    · rw [if_neg e]; exact List.nil_prefix
theorem zcL : ∀ a b : Nms, cp a b <+: a
  | [], _ => List.nil_prefix
  | _ :: _, [] => List.nil_prefix
  | x :: a, y :: b => by
    rw [zbN]
    split
    · exact List.cons_prefix_cons.mpr ⟨rfl, zcL a b⟩
    · exact List.nil_prefix
noncomputable def pth (r : Bool) (n : Nms) : List Nat := if r then told n else joinL [47] n
theorem spf {r : Bool} {n : Nms} (h : ∀ w ∈ n, Clean w) : ((sp (pth r n)).filter fun w => !decide (w = []) && !decide (w = [46])) = n := by
  have h0 : (n.filter fun w => !decide (w = []) && !decide (w = [46])) = n := List.filter_eq_self.mpr fun w hw => by
    rw [decide_eq_false (h w hw).ne, decide_eq_false (h w hw).d1]; rfl
  have hs : ∀ w ∈ n, 47 ∉ w := fun w hw => (h w hw).sl
  cases r with
  | true =>
    show ((sp (told n)).filter _) = _
    cases n with
    | nil => rw [show told [] = joinL [47] [[], []] from rfl, sp_of (by decide) (by decide)]; rfl
    | cons w n =>
      rw [show told (w :: n) = joinL [47] ([] :: w :: n) from rfl, sp_of (List.cons_ne_nil _ _) (List.forall_mem_cons.mpr ⟨List.not_mem_nil, hs⟩)]
      exact h0
  | false =>
    show ((sp (joinL [47] n)).filter _) = _
    cases n with
    | nil => rw [show joinL [47] [] = joinL [47] [[]] from rfl, sp_of (by decide) (by decide)]; rfl
    | cons w n =>
      rw [sp_of (List.cons_ne_nil _ _) hs]
      exact h0
theorem ziX {r : Bool} {n : Nms} (h : ∀ w ∈ n, Clean w) : opF .startswith [.str (pth r n), .str [47]] = some (.val (.bool r)) := by
  rw [zdG]
  cases r with
  | true => rfl
  | false =>
    show some (R.val (.bool (decide ((joinL [47] n).head? = some 47)))) = _
    rw [decide_eq_false (zdw fun w hw => (h w hw).nm)]
theorem zeC {α β : Type} {f : α → Option β} {g : α → β} : ∀ {l : List α}, (∀ a ∈ l, f a = some (g a)) → allSome (l.map f) = some (l.map g)
  | [], _ => rfl
  | a :: l, h => by
    rw [List.map_cons, h a List.mem_cons_self]
    unfold allSome
    rw [zeC fun b hb => h b (List.mem_cons_of_mem _ hb)]; rfl
section
variable {cf : Nat → List D → Option D} {ρ : List Slot}
theorem V_mapF {α : Type} {f : Nat} {x : X} {a : R} {l : List α} {g v : α → D} (h : ev cf x ρ = some [a]) (h2 : a.ds = .list (l.map g)) (hv : ∀ a ∈ l, cf f [g a] = some (v a)) : ev cf (.mapF f x) ρ = some [.val (.tup (l.map v))] := by
  rw [zbi, h]
  simp only [h2]
  rw [List.map_map]
  exact congrArg (Option.map _) (zeC hv)
theorem V_setI {α : Type} {i : Nat} {it e : X} {l : List α} {g : α → D} {b : Bool} (h : ev cf it ρ = some [.val (.list (l.map g))]) (h0 : l ≠ []) (hv : ∀ a ∈ l, ev cf e (ρ.set i (.val (g a))) = some [.val (.bool b)]) : ev cf (.setI i it e) ρ = some [.val (.bool b)] := by
  rw [zbg, h]
  simp only
  rw [zce (p := fun _ => true) (v := fun _ => .bool b) fun a ha => zfm (p := true) rfl (fun _ => hv a ha) rfl, List.filter_eq_self.mpr fun _ _ => rfl]
  cases l with
  | nil => exact absurd rfl h0
  | cons a l =>
    show (if ((l.map fun _ => D.bool b).all fun d => match d with | .bool b' => b' == b | _ => false) = true then some [R.val (.bool b)] else none) = _
    rw [if_pos (by rw [List.all_eq_true]; intro d hd; obtain ⟨_, _, rfl⟩ := List.mem_map.mp hd; exact beq_self_eq_true b)]
theorem keep_ev {i j : Nat} {w : List Nat} (g : ρ[i]? = some (.val (.str w))) (g2 : ρ[j]? = some (.val (.str [46]))) : turnD (ev cf (.and (.var i) (.op .ne (.cons (.var i) (.cons (.var j) .nil)))) ρ) (ev cf (.var i) ρ) = some (if (!decide (w = []) && !decide (w = [46])) = true then some (.str w) else none) := by
  rw [za9, V_v g rfl]
  cases w with
  | nil => rfl
  | cons c w =>
    show turnD (ev cf _ ρ) _ = _
    rw [V_op2 (V_v g rfl) (V_v g2 rfl) (ne_str _ _)]
    show (match (some (!decide (c :: w = [46])) : Option Bool) with | some true => some (some (D.str (c :: w))) | some false => some none | none => none) = _
    rw [decide_eq_false (List.cons_ne_nil c w)]
    cases decide (c :: w = [46]) <;> rfl
theorem zk6 {i j k : Nat} {r : Bool} {n : Nms} (hn : ∀ w ∈ n, Clean w) (g : ρ[i]? = some (.val (nD (sp (pth r n))))) (g2 : ∀ d, (ρ.set k d)[k]? = some d) (g3 : ∀ d, (ρ.set k d)[j]? = some (.val (.str [46]))) :
    ev cf (.comp k (.seqI (.var i)) (.and (.var k) (.op .ne (.cons (.var k) (.cons (.var j) .nil)))) (.var k)) ρ = some [.own (n.map .str)] := by
  have := zh7 (cf := cf) (ρ := ρ) (i := k) (v := D.str) (g := D.str) (zck (V_v g rfl) rfl rfl) fun w hw => keep_ev (g2 (.val (.str w))) (g3 (.val (.str w)))
  rw [spf hn] at this
  exact this
end
noncomputable def cmB : S := (.seq (.ite (.op .ne (.cons (.var 5) (.cons (.op .index (.cons (.var 7) (.cons (.var 9) .nil))) .nil))) (.seq (.assign 8 (.op .slice (.cons (.var 6) (.cons (.const .none) (.cons (.var 9) .nil))))) (.seq .brk .skip)) .skip) .skip)
theorem zkd {cf : Nat → List D → Option D} {x0 x1 x2 x3 x4 y0 y1 y2 y3 y4 : Slot} {x8 : D} : ∀ (u v p : Nms) (x5 x9 : Slot), (p ++ u).length ≤ 100000 → ltSs v u = false → (cp u v = u → x8 = nD (p ++ u)) →
    ∃ z5 z9, forGo (put2 9 5) (ex cf cmB) (enumL (p.length : Int) (u.map .str)) [x0, x1, x2, x3, x4, x5, .val (nD (p ++ u)), .val (nD (p ++ v)), .val x8, x9, y0, y1, y2, y3, y4] = some ([x0, x1, x2, x3, x4, z5, .val (nD (p ++ u)), .val (nD (p ++ v)), .val (nD (p ++ cp u v)), z9, y0, y1, y2, y3, y4], .next)
  | [], v, p, x5, x9, _, _, h => ⟨x5, x9, by rw [h rfl]; rfl⟩
  | c :: u, [], p, x5, x9, _, h, _ => by rw [ltSs] at h; cases h
  | c :: u, d :: v, p, x5, x9, hl, hlt, h8 => by
    have hp : p.length ≤ 1000000 := by
      rw [List.length_append] at hl
      exact Nat.le_trans (Nat.le_trans (Nat.le_add_right _ _) hl) (by decide)
    have h1 : opF .index [nD (p ++ d :: v), .int (p.length : Int)] = some (.val (.str d)) := zbK (by rw [List.map_append, List.getElem?_append_right (by rw [List.length_map]; exact Nat.le_refl _), List.length_map, Nat.sub_self]; rfl) hp
    by_cases hcd : c = d
    · subst hcd
      rw [zcQ, if_pos rfl] at hlt
      obtain ⟨z5, z9, e⟩ := zkd (cf := cf) (x0 := x0) (x1 := x1) (x2 := x2) (x3 := x3) (x4 := x4) (y0 := y0) (y1 := y1) (y2 := y2) (y3 := y3) (y4 := y4) (x8 := x8) u v (p ++ [c]) (.val (.str c)) (.val (.int (p.length : Int))) (by rw [List.append_assoc]; exact hl) hlt fun e => by rw [List.append_assoc]; exact h8 (by rw [zbN, if_pos rfl, e])
      have e2 : cp (c :: u) (c :: v) = c :: cp u v := if_pos rfl
      rw [e2]
      refine ⟨z5, z9, zaK (st := put2 9 5) (o := .next) (ρ₂ := [x0, x1, x2, x3, x4, .val (.str c), .val (nD (p ++ c :: u)), .val (nD (p ++ c :: v)), .val x8, .val (.int (p.length : Int)), y0, y1, y2, y3, y4]) zjb ?_ (zbt ?_)⟩
      · unfold cmB
        refine R_seq (R_ite (t := false) (T_of (V_op2 (V_v rfl rfl) (V_op2 (V_v rfl rfl) (V_v rfl rfl) h1) ?_)) (R_ff zau)) (zaf zau)
        exact (ne_str c c).trans (by rw [decide_eq_true rfl]; rfl)
      · rw [List.append_assoc, List.append_assoc, List.append_assoc, List.length_append] at e
        exact e
    · have e2 : cp (c :: u) (d :: v) = [] := if_neg hcd
      rw [e2, List.append_nil]
      have h3 : opF .slice [nD (p ++ c :: u), .none, .int (p.length : Int)] = some (.own (p.map .str)) := by
        have := zfD (l := (p ++ c :: u).map D.str) (n := p.length) hp (by rw [List.length_map, List.length_append]; exact Nat.le_add_right _ _)
        rw [← List.map_take, List.take_left' rfl] at this
        exact this
      refine ⟨.val (.str c), .val (.int (p.length : Int)), zaK (st := put2 9 5) (o := .brk) zjb ?_ zeF⟩
      unfold cmB
      refine R_seq (R_ite (t := true) (T_of (V_op2 (V_v rfl rfl) (V_op2 (V_v rfl rfl) (V_v rfl rfl) h1) ?_)) (R_tt (R_seq (zag (E_of (V_op3 (V_v rfl rfl) rfl (V_v rfl rfl) h3) rfl) rfl) (zaf (R_seq R_brk zbD))))) zbD
      exact (ne_str c d).trans (by rw [decide_eq_false hcd]; rfl)
theorem zkR {α : Type} {l : List α} {v : α → D} (d : α) (h : l ≠ []) : opF .index [.tup (l.map v), .int 0] = some (.val (v (l.head h))) := by
  cases l with
  | nil => exact absurd rfl h
  | cons a l => exact zfC (k := 0) rfl (by decide)
theorem min_of {l : List Nms} (h : l ≠ []) : ∃ s, opF .min [.list (l.map nD)] = some (.val (nD s)) ∧ s ∈ l ∧ ∀ n ∈ l, ltSs n s = false := by
  cases l with
  | nil => exact absurd rfl h
  | cons a l =>
    obtain ⟨s, e, h⟩ := zfY ordL (l := l) (a := a)
    exact ⟨s, by show (bestGo ltD (nD a) (l.map nD)).map R.val = _; rw [e]; rfl, h⟩
theorem max_of {l : List Nms} (h : l ≠ []) : ∃ s, opF .max [.list (l.map nD)] = some (.val (nD s)) ∧ s ∈ l ∧ ∀ n ∈ l, ltSs s n = false := by
  cases l with
  | nil => exact absurd rfl h
  | cons a l =>
    obtain ⟨s, e, h⟩ := zfY ordG (l := l) (a := a)
    exact ⟨s, by show (bestGo gtD (nD a) (l.map nD)).map R.val = _; rw [e]; rfl, h⟩
theorem zfS {fns : Nat → Option Fn} (h2 : fns 2 = some fn_fspath) (h13 : fns 13 = some fn_commonpath) (m : Nat) {r : Bool} {L : List Nms} (h0 : L ≠ []) (hc : ∀ n ∈ L, ∀ w ∈ n, Clean w) (hl : ∀ n ∈ L, n.length ≤ 1000) (hw : ∀ n ∈ L, ∀ w ∈ n, w.length ≤ 90) :
    ∃ p, callF fns (m + 2) 13 [.list (L.map fun n => .str (pth r n))] = some (.str (pth r p)) ∧ IsCp L p := by
  obtain ⟨s, e1, m1, f1⟩ := min_of h0
  obtain ⟨t, e2, m2, f2⟩ := max_of h0
  have hp : IsCp L (cp s t) := ⟨fun n hn => zlz (f1 n hn) (f2 n hn), fun q hq => zh3 (hq s m1) (hq t m2)⟩
  refine ⟨cp s t, zbQ h13 (ρ := [.val (.list (L.map fun n => .str (pth r n))), .unset, .unset, .unset, .unset, .unset, .unset, .unset, .unset, .unset, .unset, .unset, .unset, .unset, .unset]) rfl ?_, hp⟩
  show ∃ ρ', ex (callF fns (m + 1)) s_commonpath _ = _
  have f0 := fun l => zb3 h2 m l
  obtain ⟨z5, z9, lp⟩ := zkd (cf := callF fns (m + 1)) (x0 := .val (.tup (L.map fun n => .str (pth r n)))) (x1 := .val (.str [47])) (x2 := .val (.str [46])) (x3 := .val (.list (L.map nD))) (x4 := .val (.bool r)) (y0 := .unset) (y1 := .unset) (y2 := .unset) (y3 := .unset) (y4 := .unset) (x8 := nD s) s t [] .unset .unset (Nat.le_trans (hl s m1) (by decide)) (f1 t m2) fun _ => rfl
  generalize callF fns (m + 1) = cf at *
  have jl : ∀ {n : Nms}, n.length ≤ 1000 → (∀ w ∈ n, w.length ≤ 90) → (joinL [47] n).length ≤ 91000 := fun {n} h1 h2 => Nat.le_trans (zbL n 90 h2) (Nat.mul_le_mul_left 91 h1)
  have jp : (joinL [47] (cp s t)).length ≤ 91000 := jl (Nat.le_trans (zh4 s t) (hl s m1)) fun w h => hw s m1 w ((zcL s t).subset h)
  unfold cmB at lp
  unfold s_commonpath
  have tail : ∃ ρ', ex cf (.seq (.assign 10 (.ite (.var 4) (.var 1) (.op .slice (.cons (.var 1) (.cons (.const .none) (.cons (.const (.int 0)) .nil)))))) (.seq (.ret (.op .add (.cons (.var 10) (.cons (.op .join (.cons (.var 1) (.cons (.var 8) .nil))) .nil)))) .skip)) [.val (.tup (L.map fun n => .str (pth r n))), .val (.str [47]), .val (.str [46]), .val (.list (L.map nD)), .val (.bool r), z5, .val (nD ([] ++ s)), .val (nD ([] ++ t)), .val (nD ([] ++ cp s t)), z9, .unset, .unset, .unset, .unset, .unset] = some (ρ', .ret (.str (pth r (cp s t)))) :=
    have k : opF .add [.str (if r then [47] else []), .str (joinL [47] (cp s t))] = some (.val (.str (pth r (cp s t)))) := by
      cases r
      · exact zc5 (Nat.le_trans (Nat.add_le_add_left jp 0) (by decide))
      · exact zc5 (Nat.le_trans (Nat.add_le_add_left jp 1) (by decide))
    ⟨_, R_seq (zag (d := .str (if r then [47] else [])) (by cases r <;> rfl) rfl) (zaf (R_seq (R_ret (E_of (V_op2 (V_v rfl rfl) (V_op2 (V_v rfl rfl) (V_v rfl rfl) (zej (ls := cp s t) (Nat.le_trans jp (by decide)))) k) rfl)) zan))⟩
  obtain ⟨ρ', tail⟩ := tail
  refine ⟨ρ', R_seq (zag (E_of (V_mapF (V_v rfl rfl) rfl fun n _ => f0 _) rfl) rfl) (zaf (R_seq (R_ite (t := false) ?c1 (R_ff zau)) (zaf (R_seq (R_ite (t := false) (T_of (V_op2 (V_op2 (V_v rfl rfl) rfl (zkR [] h0)) rfl rfl)) (R_ff (R_seq (zag rfl rfl) (zaf (R_seq (zag rfl rfl) (zaf zau)))))) (zaf ?rest)))))⟩
  case rest =>
    have l1 : ∀ n ∈ L, (pth r n).length + 2 ≤ lim := by
      intro n hn
      refine Nat.le_trans (Nat.add_le_add_right (?_ : _ ≤ 91001) 2) (by decide)
      have := jl (hl n hn) (hw n hn)
      cases r
      · exact Nat.le_succ_of_le this
      · exact Nat.succ_le_succ this
    refine R_seq (o := .ret (.str (pth r (cp s t)))) (R_try (R_seq (zag (E_of (zeD (g := fun n => .str (pth r n)) (v := fun n => nD (sp (pth r n))) (zck (V_v rfl rfl) rfl rfl) fun n hn => ⟨_, V_op2 (V_v rfl rfl) (V_v rfl rfl) (zha (l1 n hn)), rfl⟩) rfl) rfl) (zaf ?r2))) zan
    refine R_seq (R_try (R_seq (zag (E_of (V_setI (zck (V_v rfl rfl) rfl rfl) h0 fun n hn => V_op2 (V_v rfl rfl) (V_v rfl rfl) (ziX (hc n hn))) rfl) rfl) (zaf zau))) (zaf ?_)
    refine R_seq (zag (E_of (zeD (g := fun n => nD (sp (pth r n))) (v := nD) (zck (V_v rfl rfl) rfl rfl) fun n hn => ⟨_, zk6 (hc n hn) rfl (fun _ => rfl) fun _ => rfl, rfl⟩) rfl) rfl) (zaf ?_)
    exact R_seq (zag (E_of (V_op1 (V_v rfl rfl) e1) rfl) rfl) (zaf (R_seq (zag (E_of (V_op1 (V_v rfl rfl) e2) rfl) rfl) (zaf (R_seq (zag (E_of (V_v rfl rfl) rfl) rfl) (zaf (R_seq (zkr (I_of rfl) lp) (zaf tail)))))))
  case c1 =>
    rw [zb4, za8, V_v rfl rfl]
    show truthR (Option.map _ (D.tup _).truth) = _
    cases L with
    | nil => exact absurd rfl h0
    | cons a L => rfl
noncomputable def drC : X := (.and (.op .gt (.cons (.var 2) (.cons (.const (.int 0)) .nil))) (.op .lt (.cons (.op .len (.cons (.var 1) .nil)) (.cons (.const (.int 4)) .nil))))
noncomputable def drB : S := (.seq (.append 1 (.op .index (.cons (.tup (.cons (.const (.str [97])) (.cons (.const (.str [98])) (.cons (.const (.str [42])) (.cons (.const (.str [97, 91])) (.cons (.const (.str [91, 33, 97, 93])) .nil)))))) (.cons (.op .mod (.cons (.var 2) (.cons (.const (.int 5)) .nil))) .nil)))) (.seq (.assign 2 (.op .fdiv (.cons (.var 2) (.cons (.const (.int 5)) .nil)))) .skip))
theorem zly {cf : Nat → List D → Option D} {x : Slot} {ns : Nm} {l : Nat} {b : Bool} (h : opF .lt [nI ns.length, .int 4] = some (.val (.bool b))) : evT cf drC [x, .own (ns.map .str), .val (nI l)] = some (decide (0 < l) && b) := by
  unfold drC
  exact T_of (V_and (V_op2 (V_v rfl rfl) rfl (o_gt0 (n := l))) fun _ => V_op2 (V_op1 (a := .bor (ns.map .str)) rfl zdH) rfl h)
theorem dr_loop {cf : Nat → List D → Option D} {x : Slot} : ∀ (k fuel : Nat) {ns : Nm} {l : Nat}, ns.length + k = 4 → k ≤ fuel → (∀ w ∈ ns, w ∈ wd8) → ∃ ns' l', whileGo (evT cf drC) (ex cf drB) (fuel + 1) [x, .own (ns.map .str), .val (nI l)] = some ([x, .own (ns'.map .str), .val (nI l')], .next) ∧ N8 ns' := by
  intro k
  induction k with
  | zero =>
    intro fuel ns l hl _ h
    refine ⟨ns, l, zaP (t := false) ?_ zbO, Nat.le_of_eq hl, h⟩
    have h2 : opF .lt [nI ns.length, .int 4] = some (.val (.bool false)) := by rw [show ns.length = 4 from hl]; rfl
    have := zly (cf := cf) (x := x) (l := l) h2
    rw [Bool.and_false] at this
    exact this
  | succ k ih =>
    intro fuel ns l hl hf h
    have hlt : ns.length < 4 := by rw [← hl]; exact Nat.lt_add_of_pos_right (Nat.succ_pos k)
    have h2 : opF .lt [nI ns.length, .int 4] = some (.val (.bool true)) := by
      show some (R.val (.bool (decide ((ns.length : Int) < ((4 : Nat) : Int))))) = _
      rw [decide_eq_true (Int.ofNat_lt.mpr hlt)]
    have c := zly (cf := cf) (x := x) (l := l) h2
    rw [Bool.and_true] at c
    cases e : decide (0 < l) with
    | false =>
      rw [e] at c
      exact ⟨ns, l, zaP (t := false) c zbO, Nat.le_of_lt hlt, h⟩
    | true =>
      rw [e] at c
      cases fuel with
      | zero => cases hf
      | succ fuel =>
        have hk : l % 5 < 5 := Nat.mod_lt _ (by decide)
        have h1 : opF .index [.tup (wd8.map .str), nI (l % 5)] = some (.val (.str (wd8.getD (l % 5) []))) := zfC (zh5 hk []) (Nat.le_trans (Nat.le_of_lt hk) (by decide))
        have hw : wd8.getD (l % 5) [] ∈ wd8 := zde hk []
        generalize wd8.getD (l % 5) [] = w at h1 hw
        obtain ⟨ns', l', e2, h'⟩ := ih fuel (ns := ns ++ [w]) (l := l / 5) (by rw [List.length_append, List.length_singleton, Nat.add_assoc, Nat.add_comm 1]; exact hl) (Nat.le_of_succ_le_succ hf) fun v hv => by
          rcases List.mem_append.mp hv with h2 | h2
          · exact h v h2
          · rw [List.mem_singleton.mp h2]; exact hw
        refine ⟨ns', l', zaP (t := true) c (R_wGo ?_ (zcg e2)), h'⟩
        unfold drB
        exact R_seq (zbH (E_of (V_op2 (a := .val (.tup (wd8.map .str))) rfl (V_op2 (V_v rfl rfl) rfl (o_mod (n := l) (k := 5) (by decide))) h1) rfl) rfl (by rw [List.length_map]; exact Nat.lt_trans hlt (by decide)) rfl) (zaf (R_seq (zag (E_of (V_op2 (V_v rfl rfl) rfl (o_div (n := l) (k := 5) (by decide))) rfl) (by rw [List.map_append]; rfl)) (zaf zau)))
theorem drawn8 (m l : Nat) : ∃ ns, callF fns08 (m + 1) 18 [nI l] = some (nD ns) ∧ N8 ns := by
  obtain ⟨ns, l', e, h⟩ := dr_loop (cf := callF fns08 m) (x := .val (nI l)) 4 99999 (ns := []) (l := l) rfl (by decide) fun _ h => nomatch h
  refine ⟨ns, zbQ (fn := fn_law_drawn) rfl (ρ := [.val (nI l), .unset, .unset]) rfl ?_, h⟩
  show ∃ ρ', ex (callF fns08 m) s_law_drawn _ = _
  unfold drC drB at e
  unfold s_law_drawn
  exact ⟨_, R_seq (zbf rfl (l := []) rfl rfl) (zaf (R_seq (zag (E_of (V_op1 (V_v rfl rfl) zlt) rfl) rfl) (zaf (R_seq (zcf e) (zaf (R_seq (R_seq (R_fz rfl rfl) (zaf (R_ret (E_of (V_v rfl rfl) rfl)))) zan))))))⟩
theorem zbA : ∀ {b c : Nms}, b ≠ [] → c ≠ [] → joinL [47] (b ++ c) = joinL [47] b ++ 47 :: joinL [47] c
  | [], _, h, _ => absurd rfl h
  | [x], [], _, h => absurd rfl h
  | [x], y :: c, _, _ => by
    show x ++ [47] ++ joinL [47] (y :: c) = x ++ 47 :: _
    rw [List.append_assoc]; rfl
  | x :: y :: b, c, _, h => by
    have := zbA (b := y :: b) (List.cons_ne_nil _ _) h
    show x ++ [47] ++ joinL [47] ((y :: b) ++ c) = x ++ [47] ++ joinL [47] (y :: b) ++ _
    rw [this, List.append_assoc, List.append_assoc, List.append_assoc]
theorem zgu {d : Nms} (h0 : d ≠ []) (h : ∀ w ∈ d, NameOK w) : ∃ t c, joinL [47] d = t ++ [c] ∧ c ≠ 47 := by
  obtain ⟨d', w, rfl⟩ : ∃ d' w, d = d' ++ [w] := ⟨_, _, (List.dropLast_concat_getLast h0).symm⟩
  obtain ⟨w0, w1⟩ := h w (List.mem_append_right _ List.mem_cons_self)
  obtain ⟨w', c, rfl⟩ : ∃ w' c, w = w' ++ [c] := ⟨_, _, (List.dropLast_concat_getLast w0).symm⟩
  have hc : c ≠ 47 := fun q => w1 (by rw [q]; exact List.mem_append_right _ List.mem_cons_self)
  by_cases h1 : d' = []
  · subst h1
    exact ⟨w', c, rfl, hc⟩
  · exact ⟨joinL [47] d' ++ 47 :: w', c, by rw [zbA h1 (List.cons_ne_nil _ _), List.append_assoc]; rfl, hc⟩
theorem zlx {t : List Nat} {c : Nat} (h : c ≠ 47) : ((t ++ [c]).reverse.dropWhile fun x => x == 47).reverse = t ++ [c] := by
  rw [List.reverse_append, List.reverse_singleton, List.singleton_append, List.dropWhile_cons_of_neg (by rw [beq_eq_false_iff_ne.mpr h]; exact Bool.false_ne_true), List.reverse_cons, List.reverse_reverse]
theorem zgR {d : Nms} (h0 : d ≠ []) (h : ∀ w ∈ d, NameOK w) : strip0 (told d ++ [47]) = told d := by
  obtain ⟨t, c, e, hc⟩ := zgu h0 h
  have e2 : told d = (47 :: t) ++ [c] := by unfold told; rw [e]; rfl
  unfold strip0
  rw [if_neg]
  · rw [List.reverse_append, List.reverse_singleton, List.singleton_append, List.dropWhile_cons_of_pos rfl, e2]
    exact zlx hc
  · intro q
    have : c ∈ told d ++ [47] := by rw [e2]; exact List.mem_append_left _ (List.mem_append_right _ List.mem_cons_self)
    rw [q] at this
    exact hc (List.eq_of_mem_replicate this)
theorem dir8 (m : Nat) {ns : Nm} (h : N8 ns) : callF fns08 (m + 2) 6 [.str (told ns)] = some (.str (told ns.dropLast)) := by
  by_cases h0 : ns = []
  · subst h0
    exact zdy (fns := fns08) rfl rfl rfl m (x := []) (y := []) List.not_mem_nil (by decide)
  · obtain ⟨d, w, rfl⟩ : ∃ d w, ns = d ++ [w] := ⟨_, _, (List.dropLast_concat_getLast h0).symm⟩
    have hw := (h.nm w (List.mem_append_right _ List.mem_cons_self)).2
    rw [List.dropLast_concat]
    by_cases h1 : d = []
    · subst h1
      exact zdy (fns := fns08) rfl rfl rfl m (x := []) hw (by decide)
    · have e : told (d ++ [w]) = told d ++ 47 :: w := by unfold told; rw [zbA h1 (List.cons_ne_nil _ _)]; rfl
      have hl := h.tl
      rw [e, List.length_append] at hl
      rw [e, zdy (fns := fns08) rfl rfl rfl m hw (Nat.lt_of_le_of_lt (Nat.le_trans (Nat.le_add_right _ _) hl) (by decide)), zgR h1 fun w hw => h.nm w (List.mem_append_left _ hw)]
noncomputable def rs (ns : Nm) : List Nat := if ns = [] then [] else told ns
theorem rs8 {ns : Nm} (h : N8 ns) : opF .rstrip [.str (told ns), .str [47]] = some (.val (.str (rs ns))) := by
  rw [zhD]
  unfold rs
  by_cases h0 : ns = []
  · subst h0; rfl
  · rw [if_neg h0]
    obtain ⟨t, c, e, hc⟩ := zgu h0 h.nm
    have e2 : told ns = (47 :: t) ++ [c] := by unfold told; rw [e]; rfl
    rw [e2, zlx hc]
theorem rs_sg {ns : Nm} (h : N8 ns) : (∀ c ∈ rs ns, c ∈ sg8) ∧ (rs ns).length ≤ 21 := by
  unfold rs
  split
  · exact ⟨(fun _ h => nomatch h), by decide⟩
  · exact ⟨h.sg, h.tl⟩
theorem zkt {a b : Nm} (ha : ∀ w ∈ a, NameOK w) (hb : ∀ w ∈ b, NameOK w) (h0 : b ≠ []) : (∃ r, told a = told b ++ 47 :: r) ↔ b <+: a ∧ b ≠ a := by
  constructor
  · rintro ⟨r, e⟩
    have e : joinL [47] a = joinL [47] b ++ 47 :: r := (List.cons.inj e).2
    rw [← zfs r, ← zbA h0 (sp_ne r)] at e
    have := zda (a := a) (b := b ++ sp r) (fun q => by
      rw [q, zbA h0 (sp_ne r)] at e
      exact List.append_ne_nil_of_right_ne_nil _ (List.cons_ne_nil _ _) e.symm) (List.append_ne_nil_of_left_ne_nil h0 _) (fun w hw => (ha w hw).2) (fun w hw => by
      rcases List.mem_append.mp hw with h | h
      · exact (hb w h).2
      · exact zgU w h) e
    rw [this]
    exact ⟨List.prefix_append _ _, fun q => sp_ne r (List.self_eq_append_right.mp q)⟩
  · rintro ⟨⟨c, rfl⟩, h⟩
    have hc : c ≠ [] := fun q => h (by rw [q, List.append_nil])
    exact ⟨joinL [47] c, by unfold told; rw [zbA h0 hc]; rfl⟩
theorem zli {a b : Nm} (ha : N8 a) (hb : N8 b) : ((∃ r, told a = rs b ++ 47 :: r) ∨ a = b) ↔ b <+: a := by
  unfold rs
  by_cases h0 : b = []
  · subst h0
    rw [if_pos rfl]
    exact ⟨fun _ => List.nil_prefix, fun _ => .inl ⟨_, rfl⟩⟩
  · rw [if_neg h0, zkt ha.nm hb.nm h0]
    constructor
    · rintro (h | h)
      · exact h.1
      · rw [h]; exact List.prefix_refl _
    · intro h
      by_cases e : a = b
      · exact .inr e
      · exact .inl ⟨h, fun q => e q.symm⟩
theorem zew (a b : Nms) : cp a b <+: b := zdz a b ▸ zcL b a
theorem below_iff {a b : Nms} : (cp a b).length = b.length ↔ b <+: a :=
  ⟨fun h => (zew a b).eq_of_length h ▸ zcL a b, fun h => Nat.le_antisymm (zew a b).length_le (zh3 h (List.prefix_refl b)).length_le⟩
theorem cp_is (a b : Nms) : IsCp [a, b] (cp a b) := ⟨fun n h => by
  rcases List.mem_cons.mp h with h | h
  · rw [h]; exact zcL a b
  · rw [List.mem_singleton.mp h]; exact zew a b, fun q h => zh3 (h a List.mem_cons_self) (h b (List.mem_cons_of_mem _ List.mem_cons_self))⟩
theorem IsCp.eq {L : List Nms} {p q : Nms} (h : IsCp L p) (h2 : IsCp L q) : p = q :=
  (h2.top p h.pre).eq_of_length (Nat.le_antisymm (h2.top p h.pre).length_le (h.top q h2.pre).length_le)
theorem zhn (a b : Nms) : a.take (cp a b).length = cp a b := (List.prefix_iff_eq_take.mp (zcL a b)).symm
theorem way_up {a b : Nm} (ha : N8 a) (hb : N8 b) : (relT a b ≠ [46, 46] ∧ ¬ ∃ r, relT a b = [46, 46] ++ 47 :: r) ↔ b <+: a := by
  have hk := zcL b a
  rw [← below_iff, zdz a b]
  by_cases h : (cp b a).length = b.length
  · refine ⟨fun _ => h, fun _ => ?_⟩
    have e : relL a b = a.drop (cp b a).length := by unfold relL; rw [h, Nat.sub_self]; rfl
    have hc : ∀ w ∈ relL a b, Clean w := fun w hw => ha.cl w (List.mem_of_mem_drop (e ▸ hw))
    unfold relT
    split
    · exact ⟨by decide, fun ⟨_, h⟩ => by cases h⟩
    · rename_i h0
      have no : ∀ c : Nms, c ≠ [] → (∀ w ∈ c, 47 ∉ w) → joinL [47] (relL a b) = joinL [47] c → c.head? ≠ some [46, 46] := fun c c0 hs e hd => by
        have := zda h0 c0 (fun w hw => (hc w hw).sl) hs e
        cases c with
        | nil => cases hd
        | cons x c =>
          cases hd
          exact (hc _ (this ▸ List.mem_cons_self)).d2 rfl
      refine ⟨fun e => no [[46, 46]] (by decide) (by decide) e rfl, fun ⟨r, e⟩ => no ([46, 46] :: sp r) (List.cons_ne_nil _ _) (List.forall_mem_cons.mpr ⟨by decide, zgU⟩) ?_ rfl⟩
      have := zbA (b := [[46, 46]]) (List.cons_ne_nil _ _) (sp_ne r)
      rw [zfs] at this
      exact e.trans this.symm
  · refine ⟨fun hw => absurd hw ?_, fun e => absurd e h⟩
    have hlt : (cp b a).length < b.length := Nat.lt_of_le_of_ne hk.length_le h
    obtain ⟨k, hk⟩ : ∃ k, b.length - (cp b a).length = k + 1 := ⟨_, (Nat.succ_pred_eq_of_pos (Nat.sub_pos_of_lt hlt)).symm⟩
    obtain ⟨l, e⟩ : ∃ l, relL a b = [46, 46] :: l := ⟨_, by unfold relL; rw [hk, List.replicate_succ]; rfl⟩
    unfold relT
    rw [if_neg (by rw [e]; exact List.cons_ne_nil _ _), e]
    rintro ⟨h1, h2⟩
    by_cases hl : l = []
    · exact h1 (by rw [hl]; rfl)
    · exact h2 ⟨joinL [47] l, zbA (b := [[46, 46]]) (List.cons_ne_nil _ _) hl⟩
theorem zi7 {a b : Nm} (ha : N8 a) (hb : N8 b) : (∀ c ∈ relT a b, c ∈ sg8) ∧ (relT a b).length ≤ 100 := by
  have hw : ∀ w ∈ relL a b, w.length ≤ 4 ∧ ∀ c ∈ w, c ∈ sg8 := fun w hw => by
    rcases zfy w hw with rfl | h
    · decide
    · exact word8 w (ha.wd w h)
  have hl : (relL a b).length ≤ 4 + 4 := by
    unfold relL
    rw [List.length_append, List.length_replicate, List.length_drop]
    exact Nat.add_le_add (Nat.le_trans (Nat.sub_le _ _) hb.len) (Nat.le_trans (Nat.sub_le _ _) ha.len)
  unfold relT
  split
  · exact ⟨by decide, by decide⟩
  · refine ⟨fun c hc => ?_, Nat.le_trans (zbL _ 4 fun w h => (hw w h).1) (Nat.le_trans (Nat.mul_le_mul_left 5 hl) (by decide))⟩
    rcases zeq hc with h | ⟨w, h, hc⟩
    · rw [List.mem_singleton.mp h]; decide
    · exact (hw w h).2 c hc
noncomputable def UD (b : Nm) : D := .list ((mg (tq (rs b) ++ [5, 9])).map aP)
noncomputable def AD : D := .list ((mg [2, 2, 5, 9]).map aP)
set_option genInjectivity false in
structure CF08 (cf : Nat → List D → Option D) : Prop where
  h1 : ∀ as, (∀ k ∈ as, k < 11) → as.length ≤ 100 → cf 1 [.str (tx as), .tok 0, .str [46]] = some (.list ((mg as).map aP))
  h6 : ∀ n, N8 n → cf 6 [.str (told n)] = some (.str (told n.dropLast))
  h11 : ∀ a b, N8 a → N8 b → cf 11 [.str (told a), .str (told b)] = some (.str (relT a b))
  h13 : ∀ L, L ≠ [] → (∀ n ∈ L, N8 n) → ∃ p, cf 13 [.list (L.map fun n => .str (told n))] = some (.str (told p)) ∧ IsCp L p
  h15 : ∀ as w, (∀ k ∈ as, k < 11) → (∀ c ∈ w, c ∈ sg8) → w.length ≤ 100 → ∃ b, cf 15 [.list ((mg as).map aP), .tok 0, .str w] = some (.bool b) ∧ (b = true ↔ Mt as w)
  h18 : ∀ l, ∃ ns, cf 18 [nI l] = some (nD ns) ∧ N8 ns
  h26 : ∀ t, (∀ c ∈ t, c ∈ sg8) → t.length ≤ 50 → cf 26 [.str t] = some (.str (tx (tq t)))
  h33 : ∀ ns, N8 ns → cf 33 [nD ns] = some (.str (told ns))
section
variable {cf : Nat → List D → Option D}
theorem un_lt {b : Nm} (hb : N8 b) : (∀ k ∈ tq (rs b) ++ [5, 9], k < 11) ∧ (tq (rs b) ++ [5, 9]).length ≤ 23 := by
  refine ⟨fun k hk => ?_, ?_⟩
  · rcases List.mem_append.mp hk with h | h
    · exact tq_lt (rs_sg hb).1 k h
    · exact (show ∀ k ∈ [5, 9], k < 11 by decide) k h
  · unfold tq
    rw [List.length_append, List.length_map]
    exact Nat.add_le_add_right (rs_sg hb).2 2
theorem CF08.un (C : CF08 cf) {a b : Nm} (ha : N8 a) (hb : N8 b) : ∃ t, cf 15 [UD b, .tok 0, .str (told a)] = some (.bool t) ∧ (t = true ↔ ∃ r, told a = rs b ++ 47 :: r) := by
  obtain ⟨t, e, h⟩ := C.h15 _ (told a) (un_lt hb).1 ha.sg (Nat.le_trans ha.tl (by decide))
  exact ⟨t, e, h.trans (zhJ (rs_sg hb).1)⟩
theorem CF08.ab (C : CF08 cf) {a b : Nm} (ha : N8 a) (hb : N8 b) : ∃ t, cf 15 [AD, .tok 0, .str (relT a b)] = some (.bool t) ∧ (t = true ↔ ∃ r, relT a b = [46, 46] ++ 47 :: r) := by
  obtain ⟨t, e, h⟩ := C.h15 [2, 2, 5, 9] (relT a b) (by decide) (zi7 ha hb).1 (zi7 ha hb).2
  exact ⟨t, e, h.trans (zhJ (t := [46, 46]) (by decide))⟩
theorem zhA (C : CF08 cf) {ρ : List Slot} {i : Nat} {b : Nm} (hb : N8 b) (g : ρ[i]? = some (.val (.str (told b)))) (g1 : ρ[1]? = some (.val (.tok 0))) :
    ev cf (.call 1 (.cons (.op .add (.cons (.call 26 (.cons (.op .rstrip (.cons (.var i) (.cons (.const (.str [47])) .nil))) .nil)) (.cons (.const (.str [47, 42])) .nil))) (.cons (.var 1) (.cons (.const (.str [46])) .nil)))) ρ = some [.val (UD b)] := by
  have h1 := C.h26 _ (rs_sg hb).1 (Nat.le_trans (rs_sg hb).2 (by decide))
  have h2 := C.h1 _ (un_lt hb).1 (Nat.le_trans (un_lt hb).2 (by decide))
  have hx := ziP (un_lt hb).1
  have e : tx (tq (rs b) ++ [5, 9]) = tx (tq (rs b)) ++ [47, 42] := List.flatMap_append
  rw [e] at h2 hx
  exact zaO (zao (V_op2 (zaO (zao (V_op2 (V_v g rfl) rfl (rs8 hb)) rfl) rfl h1) rfl (zc5 (by rw [← List.length_append]; exact Nat.le_trans hx (Nat.le_trans (Nat.mul_le_mul_left 6 (un_lt hb).2) (by decide))))) (zao (V_v g1 rfl) (zao rfl rfl))) rfl h2
end
noncomputable def prWC : X := (.and (.op .eq (.cons (.op .slice (.cons (.var 10) (.cons (.var 12) (.cons (.op .add (.cons (.var 12) (.cons (.const (.int 1)) .nil))) .nil)))) (.cons (.op .slice (.cons (.var 11) (.cons (.var 12) (.cons (.op .add (.cons (.var 12) (.cons (.const (.int 1)) .nil))) .nil)))) .nil))) (.op .lt (.cons (.var 12) (.cons (.op .len (.cons (.var 10) .nil)) .nil))))
noncomputable def prWB : S := (.seq (.assign 12 (.op .add (.cons (.var 12) (.cons (.const (.int 1)) .nil)))) .skip)
noncomputable def prC1 : X := (.op .ne (.cons (.var 14) (.cons (.or (.op .join (.cons (.const (.str [47])) (.cons (.op .add (.cons (.op .mul (.cons (.list (.cons (.const (.str [46, 46])) .nil)) (.cons (.op .sub (.cons (.op .len (.cons (.var 11) .nil)) (.cons (.var 12) .nil))) .nil))) (.cons (.op .slice (.cons (.var 10) (.cons (.var 12) (.cons (.const .none) .nil)))) .nil))) .nil))) (.const (.str [46]))) .nil)))
noncomputable def prC2 : X := (.op .ne (.cons (.and (.op .ne (.cons (.var 14) (.cons (.const (.str [46, 46])) .nil))) (.not (.call 15 (.cons (.var 5) (.cons (.var 1) (.cons (.var 14) .nil)))))) (.cons (.var 13) .nil)))
noncomputable def prC3 : X := (.op .ne (.cons (.call 13 (.cons (.list (.cons (.op .index (.cons (.var 4) (.cons (.var 8) .nil))) (.cons (.op .index (.cons (.var 4) (.cons (.var 9) .nil))) .nil))) .nil)) (.cons (.call 33 (.cons (.op .slice (.cons (.var 10) (.cons (.const .none) (.cons (.var 12) .nil)))) .nil)) .nil)))
noncomputable def prC4 : X := (.op .ne (.cons (.or (.call 15 (.cons (.op .index (.cons (.var 6) (.cons (.var 9) .nil))) (.cons (.var 1) (.cons (.op .index (.cons (.var 4) (.cons (.var 8) .nil))) .nil)))) (.op .eq (.cons (.var 10) (.cons (.var 11) .nil)))) (.cons (.var 13) .nil)))
noncomputable def LL (f : Nat → Slot) : List Slot := [f 0, f 1, f 2, f 3, f 4, f 5, f 6, f 7, f 8, f 9, f 10, f 11, f 12, f 13, f 14, f 15, f 16, f 17, f 18, f 19, f 20, f 21, .unset, .unset, .unset]
section
variable {cf : Nat → List D → Option D} {f : Nat → Slot} {ρ : List Slot} {a b : Nm}
theorem V_orS {x y : X} {t u : List Nat} (h1 : ev cf x ρ = some [.val (.str t)]) (h2 : ev cf y ρ = some [.val (.str u)]) : ev cf (.or x y) ρ = some [.val (.str (if t = [] then u else t))] := by
  rw [zbE, h1]
  cases t
  · exact h2
  · rfl
theorem V_o {i : Nat} {x : Slot} {l : List D} (e : ρ[i]? = some x) (h : x = .own l) : ev cf (.var i) ρ = some [.bor l] := by rw [zbo, e, h]
theorem o_neb {p q : Bool} (h : p = q) : opF .ne [.bool p, .bool q] = some (.val (.bool false)) := by
  subst h
  cases p <;> rfl
theorem zhe {t : List Nat} : opF .ne [.str t, .str t] = some (.val (.bool false)) := (ne_str t t).trans (by rw [decide_eq_true rfl]; rfl)
theorem o_eqn {m n : Nat} : opF .eq [nI m, nI n] = some (.val (.bool (decide (m = n)))) := by
  show some (R.val (.bool (decide ((m : Int) = (n : Int))))) = _
  rw [decide_eq_decide.mpr Int.ofNat_inj]
theorem o_ltn {m n : Nat} : opF .lt [nI m, nI n] = some (.val (.bool (decide (m < n)))) := by
  show some (R.val (.bool (decide ((m : Int) < (n : Int))))) = _
  rw [decide_eq_decide.mpr Int.ofNat_lt]
theorem zki {n d m : Nat} (h : n ≤ 1000000) : bound (.int (n : Int)) d m = some (clip (n : Int) m) := by
  show (if small (n : Int) = true then some (clip (n : Int) m) else none) = _
  rw [if_pos (zaG h)]
theorem o_slN {l : List D} {a b : Nat} (ha : a ≤ 1000000) (hb : b ≤ 1000000) : opF .slice [.list l, .int (a : Int), .int (b : Int)] = some (.own (cut l (clip (a : Int) l.length) (clip (b : Int) l.length))) := by
  show (match bound (.int (a : Int)) 0 l.length, bound (.int (b : Int)) l.length l.length with
    | some lo, some hi => some (R.own (cut l lo hi))
    | _, _ => none) = _
  rw [zki ha, zki hb]
theorem o_slc {p u : Nm} (h : p.length ≤ 100) : opF .slice [nD (p ++ u), nI p.length, nI (p.length + 1)] = some (.own ((u.take 1).map .str)) := by
  have h1 : p.length ≤ 1000000 := Nat.le_trans h (by decide)
  have h2 : p.length + 1 ≤ 1000000 := Nat.le_trans (Nat.succ_le_succ h) (by decide)
  refine (o_slN (l := (p ++ u).map D.str) h1 h2).trans (congrArg (fun l => some (R.own l)) ?_)
  rw [zbG (by rw [List.length_map, List.length_append]; exact Nat.le_add_right _ _)]
  unfold cut
  cases u with
  | nil => rw [List.append_nil, List.drop_of_length_le (by rw [List.length_map]; exact Nat.le_refl _), List.take_nil]; rfl
  | cons x u =>
    rw [zbG (by rw [List.length_map, List.length_append]; exact Nat.add_le_add_left (Nat.succ_le_succ (Nat.zero_le _)) _), Nat.add_sub_cancel_left, List.map_append, List.drop_left' (List.length_map _)]
    rfl
theorem zje {p u v : Nm} (hp : p.length ≤ 100) (g1 : f 10 = .val (nD (p ++ u))) (g2 : f 11 = .val (nD (p ++ v))) (g3 : f 12 = .val (nI p.length)) : evT cf prWC (LL f) = some (decide (u.take 1 = v.take 1) && decide (p.length < (p ++ u).length)) := by
  unfold prWC
  have s : opF .add [nI p.length, .int 1] = some (.val (nI (p.length + 1))) := rfl
  exact T_of (V_and (V_op2 (V_op3 (V_v rfl g1) (V_v rfl g3) (V_op2 (V_v rfl g3) rfl s) (o_slc hp)) (V_op3 (V_v rfl g2) (V_v rfl g3) (V_op2 (V_v rfl g3) rfl s) (o_slc hp)) zhb) fun _ => V_op2 (V_v rfl g3) (V_op1 (V_v rfl g1) zdH) o_ltn)
theorem zkF : ∀ (u v p : Nm) (fuel : Nat) (f : Nat → Slot), (p ++ u).length ≤ 100 → u.length ≤ fuel → f 10 = .val (nD (p ++ u)) → f 11 = .val (nD (p ++ v)) → f 12 = .val (nI p.length) →
    whileGo (evT cf prWC) (ex cf prWB) (fuel + 1) (LL f) = some (LL (upd f 12 (.val (nI (p ++ cp u v).length))), .next) := by
  intro u
  induction u with
  | nil =>
    intro v p fuel f hl _ g1 g2 g3
    have c := zje (cf := cf) (by rw [List.append_nil] at hl; exact hl) g1 g2 g3
    rw [List.append_nil, decide_eq_false (Nat.lt_irrefl _), Bool.and_false] at c
    have : (cp [] v : Nms) = [] := rfl
    rw [this, List.append_nil, ← g3]
    exact zaP (t := false) c zbO
  | cons x u ih =>
    intro v p fuel f hl hf g1 g2 g3
    have hp : p.length ≤ 100 := Nat.le_trans (by rw [List.length_append]; exact Nat.le_add_right _ _) hl
    have c := zje (cf := cf) hp g1 g2 g3
    have stop : x :: List.nil ≠ v.take 1 → cp (x :: u) v = [] → whileGo (evT cf prWC) (ex cf prWB) (fuel + 1) (LL f) = some (LL (upd f 12 (.val (nI (p ++ cp (x :: u) v).length))), .next) := fun h1 h2 => by
      rw [show (x :: u).take 1 = [x] from rfl, decide_eq_false h1, Bool.false_and] at c
      rw [h2, List.append_nil, ← g3]
      exact zaP (t := false) c zbO
    cases v with
    | nil => exact stop (fun h => nomatch h) rfl
    | cons y v =>
      by_cases h : x = y
      · subst h
        rw [decide_eq_true (show (x :: u).take 1 = (x :: v).take 1 from rfl), decide_eq_true (by rw [List.length_append]; exact Nat.lt_add_of_pos_right (Nat.succ_pos _))] at c
        cases fuel with
        | zero => cases hf
        | succ fuel =>
          have := ih v (p ++ [x]) fuel (upd f 12 (.val (nI (p ++ [x]).length))) (by rw [List.append_assoc]; exact hl) (Nat.le_of_succ_le_succ hf) (by rw [List.append_assoc]; exact g1) (by rw [List.append_assoc]; exact g2) rfl
          rw [List.append_assoc] at this
          rw [zbN, if_pos rfl]
          refine zaP (t := true) c (R_wGo ?_ (zcg this))
          unfold prWB
          exact R_seq (zag (E_of (V_op2 (V_v rfl g3) rfl (r := .val (nI (p ++ [x]).length)) (by rw [List.length_append]; rfl)) rfl) rfl) (zaf zau)
      · exact stop (fun e => h (List.cons.inj e).1) (if_neg h)
theorem prC1_ev {k : Nat} (ha : N8 a) (hb : N8 b) (hk : k = (cp a b).length) (g1 : f 10 = .val (nD a)) (g2 : f 11 = .val (nD b)) (g3 : f 12 = .val (nI k)) (g4 : f 14 = .val (.str (relT a b))) : evT cf prC1 (LL f) = some false := by
  have hk1 : k ≤ b.length := hk ▸ (zew a b).length_le
  have hk2 : k ≤ a.length := hk ▸ (zcL a b).length_le
  have k5 : opF .sub [nI b.length, nI k] = some (.val (nI (b.length - k))) := by
    show some (R.val (.int ((b.length : Int) - (k : Int)))) = _
    rw [← Int.ofNat_sub hk1]; rfl
  have k6 := zlr (x := .str [46, 46]) (n := b.length - k) (Nat.le_trans (Nat.sub_le _ _) (Nat.le_trans hb.len (by decide)))
  have k7 : opF .slice [nD a, nI k, .none] = some (.own ((a.map D.str).drop k)) := zjo (Nat.le_trans hk2 (Nat.le_trans ha.len (by decide))) (by rw [List.length_map]; exact hk2)
  have k8 : opF .add [.list (List.replicate (b.length - k) (.str [46, 46])), .list ((a.map D.str).drop k)] = some (.own ((relL a b).map .str)) := by
    rw [zjp]
    · unfold relL
      rw [List.map_append, List.map_replicate, List.map_drop, zdz b a, ← hk]
    · rw [List.length_replicate, List.length_drop, List.length_map]
      exact Nat.le_trans (Nat.add_le_add (Nat.le_trans (Nat.sub_le _ _) hb.len) (Nat.le_trans (Nat.sub_le _ _) ha.len)) (by decide)
  have hl : (joinL [47] (relL a b)).length ≤ lim := by
    have hw : ∀ w ∈ relL a b, w.length ≤ 4 := fun w hw => by
      rcases zfy w hw with rfl | h
      · decide
      · exact (word8 w (ha.wd w h)).1
    refine Nat.le_trans (zbL _ 4 hw) (Nat.le_trans (Nat.mul_le_mul_left 5 (?_ : _ ≤ 4 + 4)) (by decide))
    unfold relL
    rw [List.length_append, List.length_replicate, List.length_drop]
    exact Nat.add_le_add (Nat.le_trans (Nat.sub_le _ _) hb.len) (Nat.le_trans (Nat.sub_le _ _) ha.len)
  have e : (if joinL [47] (relL a b) = [] then [46] else joinL [47] (relL a b)) = relT a b := by
    unfold relT
    by_cases h : relL a b = []
    · rw [h]; rfl
    · rw [if_neg h, if_neg (zhQ h fun w hw => by
        rcases zfy w hw with rfl | h
        · exact ⟨by decide, by decide⟩
        · exact ha.nm w h)]
  unfold prC1
  refine T_of (V_op2 (b := .val (.str (relT a b))) (V_v rfl g4) ?_ zhe)
  rw [← e]
  exact V_orS (V_op2 rfl (V_op2 (V_op2 (a := .own [.str [46, 46]]) rfl (V_op2 (V_op1 (V_v rfl g2) zdH) (V_v rfl g3) k5) k6) (V_op3 (V_v rfl g1) (V_v rfl g3) rfl k7) k8) (zej hl)) rfl
end
noncomputable def prB : S := (.seq (.assign 10 (.op .index (.cons (.var 3) (.cons (.var 8) .nil)))) (.seq (.assign 11 (.op .index (.cons (.var 3) (.cons (.var 9) .nil)))) (.seq (.assign 12 (.const (.int 0))) (.seq (.while prWC prWB) (.seq (.assign 13 (.op .eq (.cons (.var 12) (.cons (.op .len (.cons (.var 11) .nil)) .nil)))) (.seq (.assign 14 (.call 11 (.cons (.op .index (.cons (.var 4) (.cons (.var 8) .nil))) (.cons (.op .index (.cons (.var 4) (.cons (.var 9) .nil))) .nil)))) (.seq (.ite prC1 (.seq (.ret (.const (.bool false))) .skip) .skip) (.seq (.ite prC2 (.seq (.ret (.const (.bool false))) .skip) .skip) (.seq (.ite prC3 (.seq (.ret (.const (.bool false))) .skip) .skip) (.seq (.ite prC4 (.seq (.ret (.const (.bool false))) .skip) .skip) .skip))))))))))
section
variable {cf : Nat → List D → Option D} {f : Nat → Slot} {a b : Nm} {P : List Nm}
set_option genInjectivity false in
structure G08 (P : List Nm) (f : Nat → Slot) : Prop where
  g1 : f 1 = .val (.tok 0)
  g3 : f 3 = .val (.list (P.map nD))
  g4 : f 4 = .val (.list (P.map fun n => .str (told n)))
  g5 : f 5 = .val AD
  g6 : f 6 = .own (P.map UD)
theorem prC2_ev (C : CF08 cf) (ha : N8 a) (hb : N8 b) (g1 : f 1 = .val (.tok 0)) (g5 : f 5 = .val AD) (g13 : f 13 = .val (.bool (decide (b <+: a)))) (g14 : f 14 = .val (.str (relT a b))) : evT cf prC2 (LL f) = some false := by
  obtain ⟨t, e, ht⟩ := C.ab ha hb
  have h : (!decide (relT a b = [46, 46]) && !t) = decide (b <+: a) := by
    rw [Bool.eq_iff_iff, Bool.and_eq_true, Bool.not_eq_true', Bool.not_eq_true', decide_eq_false_iff_not, decide_eq_true_eq, ← way_up ha hb, ← ht, Bool.not_eq_true]
  unfold prC2
  exact T_of (V_op2 (V_and (V_op2 (V_v rfl g14) rfl (ne_str _ _)) fun _ => V_not (zaO (zao (V_v rfl g5) (zao (V_v rfl g1) (zao (V_v rfl g14) rfl))) rfl e)) (V_v rfl g13) (o_neb h))
theorem zdm (G4 : f 4 = .val (.list (P.map fun n => .str (told n)))) {ρ : List Slot} {i j : Nat} (e : ρ[4]? = some (f 4)) (e2 : ρ[j]? = some (.val (nI i))) (hi : i < P.length) (hP : P.length ≤ 100) : ev cf (.op .index (.cons (.var 4) (.cons (.var j) .nil))) ρ = some [.val (.str (told (P.getD i [])))] :=
  V_op2 (V_v e G4) (V_v e2 rfl) (zbK (zh5 hi []) (Nat.le_trans (Nat.le_of_lt hi) (Nat.le_trans hP (by decide))))
theorem zhf (G3 : f 3 = .val (.list (P.map nD))) {ρ : List Slot} {i j : Nat} (e : ρ[3]? = some (f 3)) (e2 : ρ[j]? = some (.val (nI i))) (hi : i < P.length) (hP : P.length ≤ 100) : ev cf (.op .index (.cons (.var 3) (.cons (.var j) .nil))) ρ = some [.val (nD (P.getD i []))] :=
  V_op2 (V_v e G3) (V_v e2 rfl) (zbK (zh5 hi []) (Nat.le_trans (Nat.le_of_lt hi) (Nat.le_trans hP (by decide))))
theorem prC3_ev (C : CF08 cf) (G : G08 P f) {i j : Nat} (hi : i < P.length) (hj : j < P.length) (hP : P.length ≤ 100) (ha : N8 (P.getD i [])) (hb : N8 (P.getD j [])) (g8 : f 8 = .val (nI i)) (g9 : f 9 = .val (nI j)) (g10 : f 10 = .val (nD (P.getD i [])))
    (g12 : f 12 = .val (nI (cp (P.getD i []) (P.getD j [])).length)) : evT cf prC3 (LL f) = some false := by
  have p1 := zdm (cf := cf) G.g4 (ρ := LL f) (j := 8) rfl (congrArg some g8) hi hP
  have p2 := zdm (cf := cf) G.g4 (ρ := LL f) (j := 9) rfl (congrArg some g9) hj hP
  generalize P.getD i [] = a at *
  generalize P.getD j [] = b at *
  obtain ⟨p, e, hp⟩ := C.h13 [a, b] (List.cons_ne_nil _ _) (List.forall_mem_cons.mpr ⟨ha, List.forall_mem_cons.mpr ⟨hb, fun _ h => nomatch h⟩⟩)
  cases hp.eq (cp_is a b)
  have hk := (zcL a b).length_le
  have s : opF .slice [nD a, .none, nI (cp a b).length] = some (.own ((cp a b).map .str)) := by
    have := zfD (l := a.map D.str) (n := (cp a b).length) (Nat.le_trans hk (Nat.le_trans ha.len (by decide))) (by rw [List.length_map]; exact hk)
    rw [← List.map_take, zhn] at this
    exact this
  have h33 := C.h33 (cp a b) (zhn a b ▸ ha.take _)
  unfold prC3
  exact T_of (V_op2 (zaO (zao (zht p1 p2) rfl) rfl e) (zaO (zao (V_op3 (V_v rfl g10) rfl (V_v rfl g12) s) rfl) rfl h33) zhe)
theorem prC4_ev (C : CF08 cf) (G : G08 P f) {i j : Nat} (hi : i < P.length) (hj : j < P.length) (hP : P.length ≤ 100) (ha : N8 (P.getD i [])) (hb : N8 (P.getD j [])) (g8 : f 8 = .val (nI i)) (g9 : f 9 = .val (nI j)) (g10 : f 10 = .val (nD (P.getD i [])))
    (g11 : f 11 = .val (nD (P.getD j []))) (g13 : f 13 = .val (.bool (decide (P.getD j [] <+: P.getD i [])))) : evT cf prC4 (LL f) = some false := by
  have p1 := zdm (cf := cf) G.g4 (ρ := LL f) (j := 8) rfl (congrArg some g8) hi hP
  have u : ev cf (.op .index (.cons (.var 6) (.cons (.var 9) .nil))) (LL f) = some [.val (UD (P.getD j []))] :=
    V_op2 (V_o rfl G.g6) (V_v rfl g9) (zbK (zh5 hj []) (Nat.le_trans (Nat.le_of_lt hj) (Nat.le_trans hP (by decide))))
  generalize P.getD i [] = a at *
  generalize P.getD j [] = b at *
  obtain ⟨t, e, ht⟩ := C.un ha hb
  have h : (t || decide (a = b)) = decide (b <+: a) := by
    rw [Bool.eq_iff_iff, Bool.or_eq_true, decide_eq_true_eq, decide_eq_true_eq, ht, zli ha hb]
  unfold prC4
  exact T_of (V_op2 (V_or (zaO (zao u (zao (V_v rfl G.g1) (zao p1 rfl))) rfl e) (V_op2 (V_v rfl g10) (V_v rfl g11) zhb)) (V_v rfl g13) (o_neb h))
theorem pr_turn (C : CF08 cf) (G : G08 P f) {i j : Nat} (hi : i < P.length) (hj : j < P.length) (hP : P.length ≤ 100) (hN : ∀ n ∈ P, N8 n) (g8 : f 8 = .val (nI i)) :
    ∃ f', ex cf prB (LL (upd f 9 (.val (nI j)))) = some (LL f', .next) ∧ G08 P f' ∧ f' 8 = .val (nI i) := by
  have ha := hN _ (zde hi [])
  have hb := hN _ (zde hj [])
  let f1 := upd (upd f 9 (.val (nI j))) 10 (.val (nD (P.getD i [])))
  let f3 := upd (upd f1 11 (.val (nD (P.getD j [])))) 12 (.val (nI 0))
  let f4 := upd f3 12 (.val (nI (cp (P.getD i []) (P.getD j [])).length))
  let f6 := upd (upd f4 13 (.val (.bool (decide (P.getD j [] <+: P.getD i []))))) 14 (.val (.str (relT (P.getD i []) (P.getD j []))))
  have G6 : G08 P f6 := ⟨G.g1, G.g3, G.g4, G.g5, G.g6⟩
  have G5 : G08 P (upd f4 13 (.val (.bool (decide (P.getD j [] <+: P.getD i []))))) := ⟨G.g1, G.g3, G.g4, G.g5, G.g6⟩
  have n1 := zhf (cf := cf) G.g3 (ρ := LL (upd f 9 (.val (nI j)))) (j := 8) rfl (congrArg some g8) hi hP
  have n2 := zhf (cf := cf) G.g3 (ρ := LL f1) (j := 9) rfl rfl hj hP
  have w := zkF (cf := cf) (P.getD i []) (P.getD j []) [] 99999 f3 (Nat.le_trans ha.len (by decide)) (Nat.le_trans ha.len (by decide)) rfl rfl rfl
  have e13 : opF .eq [nI (cp (P.getD i []) (P.getD j [])).length, nI (P.getD j []).length] = some (.val (.bool (decide (P.getD j [] <+: P.getD i [])))) := by
    rw [o_eqn, decide_eq_decide.mpr below_iff]
  have p1 := zdm (cf := cf) G5.g4 (ρ := LL _) (j := 8) rfl (congrArg some g8) hi hP
  have p2 := zdm (cf := cf) G5.g4 (ρ := LL _) (j := 9) rfl rfl hj hP
  have c1 : evT cf prC1 (LL f6) = some false := prC1_ev ha hb rfl rfl rfl rfl rfl
  have c2 : evT cf prC2 (LL f6) = some false := prC2_ev C ha hb G6.g1 G6.g5 rfl rfl
  have c3 : evT cf prC3 (LL f6) = some false := prC3_ev C G6 hi hj hP ha hb g8 rfl rfl rfl
  have c4 : evT cf prC4 (LL f6) = some false := prC4_ev C G6 hi hj hP ha hb g8 rfl rfl rfl rfl
  have h11 := C.h11 _ _ ha hb
  refine ⟨f6, ?_, G6, g8⟩
  unfold prB
  exact R_seq (zag (ρ' := LL f1) (E_of n1 rfl) rfl) (zaf (R_seq (zag (ρ' := LL (upd f1 11 (.val (nD (P.getD j []))))) (E_of n2 rfl) rfl) (zaf (R_seq (zag (ρ' := LL f3) rfl rfl) (zaf (R_seq (zcf w) (zaf
    (R_seq (zag (ρ' := LL (upd f4 13 (.val (.bool (decide (P.getD j [] <+: P.getD i [])))))) (E_of (V_op2 (V_v rfl rfl) (V_op1 (V_v rfl rfl) zdH) e13) rfl) rfl) (zaf (R_seq (zag (ρ' := LL f6) (E_of (zaO (zao p1 (zao p2 rfl)) rfl h11) rfl) rfl) (zaf
    (R_seq (R_ite c1 (R_ff zau)) (zaf (R_seq (R_ite c2 (R_ff zau)) (zaf (R_seq (R_ite c3 (R_ff zau)) (zaf (R_seq (R_ite c4 (R_ff zau)) (zaf zau)))))))))))))))))))
theorem pr_loop (C : CF08 cf) (G : G08 P f) (hP : P.length ≤ 100) (hN : ∀ n ∈ P, N8 n) : ∃ f', forGo (put1 8) (ex cf (.seq (.forE 9 (.rangeI (.cons (.op .len (.cons (.var 4) .nil)) .nil)) prB) .skip)) ((List.range' 0 P.length).map nI) (LL f) = some (LL f', .next) ∧ G08 P f' := by
  have it : ∀ {g : Nat → Slot}, G08 P g → evI cf (.rangeI (.cons (.op .len (.cons (.var 4) .nil)) .nil)) (LL g) = some ((List.range' 0 P.length).map nI) := fun {g} G => I_of (zcG (zao (V_op1 (V_v rfl G.g4) zdH) rfl) (zbJ (Nat.le_trans hP (by decide))))
  obtain ⟨_, e, f', rfl, G'⟩ := zdf (cf := cf) (i := 8) (b := .seq (.forE 9 (.rangeI (.cons (.op .len (.cons (.var 4) .nil)) .nil)) prB) .skip) (I := fun _ ρ => ∃ f, ρ = LL f ∧ G08 P f) (a := 0) (m := P.length) (ρ := LL f) ⟨f, rfl, G⟩ fun i ρ _ hi J => by
    obtain ⟨f, rfl, G⟩ := J
    rw [Nat.zero_add] at hi
    have G1 : G08 P (upd f 8 (.val (nI i))) := ⟨G.g1, G.g3, G.g4, G.g5, G.g6⟩
    obtain ⟨_, e, f', rfl, G', _⟩ := zdf (cf := cf) (i := 9) (b := prB) (I := fun _ ρ => ∃ f, ρ = LL f ∧ G08 P f ∧ f 8 = .val (nI i)) (a := 0) (m := P.length) (ρ := LL (upd f 8 (.val (nI i)))) ⟨_, rfl, G1, rfl⟩ fun j ρ _ hj J => by
      obtain ⟨f, rfl, G, g8⟩ := J
      rw [Nat.zero_add] at hj
      obtain ⟨f', e, G', g8'⟩ := pr_turn C G hi hj hP hN g8
      exact ⟨LL f', .next, e, .inl rfl, f', rfl, G', g8'⟩
    exact ⟨LL f', .next, R_seq (R_for (it (g := upd f 8 (.val (nI i))) G1) e) (zaf zau), .inl rfl, f', rfl, G'⟩
  exact ⟨f', e, G'⟩
end
noncomputable def lsB : S := (.seq (.assign 20 (.call 1 (.cons (.op .add (.cons (.call 26 (.cons (.op .rstrip (.cons (.var 18) (.cons (.const (.str [47])) .nil))) .nil)) (.cons (.const (.str [47, 42])) .nil))) (.cons (.var 1) (.cons (.const (.str [46])) .nil))))) (.seq (.assign 21 (.op .eq (.cons (.comp 24 (.seqI (.var 16)) (.and (.op .ne (.cons (.var 24) (.cons (.var 18) .nil))) (.not (.call 15 (.cons (.var 20) (.cons (.var 1) (.cons (.var 24) .nil)))))) (.var 24)) (.cons (.list .nil) .nil)))) (.seq (.ite (.op .ne (.cons (.var 21) (.cons (.op .eq (.cons (.call 13 (.cons (.list (.cons (.var 17) (.cons (.var 18) .nil))) .nil)) (.cons (.var 18) .nil))) .nil))) (.seq (.ret (.const (.bool false))) .skip) .skip) (.seq (.assign 18 (.call 6 (.cons (.var 18) .nil))) .skip))))
noncomputable def laB : S := (.seq (.assign 16 (.op .slice (.cons (.var 4) (.cons (.const .none) (.cons (.var 15) .nil))))) (.seq (.assign 17 (.call 13 (.cons (.var 16) .nil))) (.seq (.assign 18 (.op .index (.cons (.var 16) (.cons (.const (.int 0)) .nil)))) (.seq (.forE 19 (.rangeI (.cons (.const (.int 5)) .nil)) lsB) .skip))))
theorem zhw {a b : Nm} (ha : N8 a) (hb : N8 b) : told a = told b ↔ a = b :=
  ⟨fun h => by
    have h1 := spf (r := true) ha.cl
    have h2 := spf (r := true) hb.cl
    unfold pth at h1 h2
    rw [if_pos rfl] at h1 h2
    rw [← h1, h, h2], fun h => h ▸ rfl⟩
section
variable {cf : Nat → List D → Option D} {f : Nat → Slot} {P Q : List Nm} {p g : Nm}
set_option genInjectivity false in
structure H08 (P Q : List Nm) (p g : Nm) (f : Nat → Slot) : Prop extends G08 P f where
  g16 : f 16 = .val (.list (Q.map fun n => .str (told n)))
  g17 : f 17 = .val (.str (told p))
  g18 : f 18 = .val (.str (told g))
  hg : N8 g
theorem o_eq0 {l : List Nm} : opF .eq [.list (l.map fun n => .str (told n)), .list []] = some (.val (.bool (decide (l = [])))) := by
  have := zhb (a := l.map told) (b := [])
  unfold nD at this
  rw [List.map_map, decide_eq_decide.mpr List.map_eq_nil_iff] at this
  exact this
theorem ls_turn (C : CF08 cf) (hQ : ∀ n ∈ Q, N8 n) (h0 : Q ≠ []) (hp : IsCp Q p) {k : Nat} (H : H08 P Q p g f) : ∃ f', ex cf lsB (LL (upd f 19 (.val (nI k)))) = some (LL f', .next) ∧ H08 P Q p g.dropLast f' := by
  have hg := H.hg
  have np : N8 p := by
    have hm := List.head_mem h0
    rw [List.prefix_iff_eq_take.mp (hp.pre _ hm)]
    exact (hQ _ hm).take _
  obtain ⟨q, e13, hq⟩ := C.h13 [p, g] (List.cons_ne_nil _ _) (List.forall_mem_cons.mpr ⟨np, List.forall_mem_cons.mpr ⟨hg, fun _ h => nomatch h⟩⟩)
  have hq := hq.eq (cp_is p g)
  have nq : N8 q := by rw [hq, ← zhn]; exact np.take _
  let f2 := upd (upd f 19 (.val (nI k))) 20 (.val (UD g))
  let f3 := upd f2 21 (.val (.bool (decide (Q.filter (fun n => !decide (g <+: n)) = []))))
  have q18 : (upd f 19 (.val (nI k))) 18 = .val (.str (told g)) := H.g18
  have q1 : (upd f 19 (.val (nI k))) 1 = .val (.tok 0) := H.g1
  have e20 := zhA C (ρ := LL (upd f 19 (.val (nI k)))) (i := 18) hg (congrArg some q18) (congrArg some q1)
  have e21 := zh7 (cf := cf) (ρ := LL f2) (i := 24) (it := .seqI (.var 16)) (cd := .and (.op .ne (.cons (.var 24) (.cons (.var 18) .nil))) (.not (.call 15 (.cons (.var 20) (.cons (.var 1) (.cons (.var 24) .nil)))))) (e := .var 24) (l := Q) (g := fun n => .str (told n)) (v := fun n => .str (told n)) (p := fun n => !decide (g <+: n)) (zck (V_v rfl H.g16) rfl rfl) fun n hn => by
    obtain ⟨t, e, ht⟩ := C.un (hQ n hn) hg
    have h : (!decide (told n = told g) && !t) = !decide (g <+: n) := by
      rw [← Bool.not_or]
      congr 1
      rw [Bool.eq_iff_iff, Bool.or_eq_true, decide_eq_true_eq, decide_eq_true_eq, ht, zhw (hQ n hn) hg, Or.comm, zli (hQ n hn) hg]
    rw [← h]
    exact zfm (V_and (V_op2 (V_v rfl rfl) (V_v rfl H.g18) (ne_str _ _)) fun _ => V_not (zaO (zao (V_v rfl rfl) (zao (V_v rfl H.g1) (zao (V_v rfl rfl) rfl))) rfl e)) (fun _ => V_v rfl rfl) rfl
  have hb : decide (Q.filter (fun n => !decide (g <+: n)) = []) = decide (told q = told g) := by
    rw [decide_eq_decide, List.filter_eq_nil_iff, zhw nq hg]
    constructor
    · intro h
      have hgp : g <+: p := hp.top g fun n hn => by
        have := h n hn
        rw [Bool.not_eq_true', decide_eq_false_iff_not, Classical.not_not] at this
        exact this
      rw [hq]
      exact (zew p g).eq_of_length (below_iff.mpr hgp)
    · intro h n hn
      rw [Bool.not_eq_true', decide_eq_false_iff_not, Classical.not_not]
      exact (h ▸ hq ▸ zcL p g : g <+: p).trans (hp.pre n hn)
  have c : evT cf (.op .ne (.cons (.var 21) (.cons (.op .eq (.cons (.call 13 (.cons (.list (.cons (.var 17) (.cons (.var 18) .nil))) .nil)) (.cons (.var 18) .nil))) .nil))) (LL f3) = some false :=
    T_of (V_op2 (V_v rfl rfl) (V_op2 (zaO (zao (zht (V_v rfl H.g17) (V_v rfl H.g18)) rfl) rfl e13) (V_v rfl H.g18) (eq_str _ _)) (o_neb hb))
  refine ⟨upd f3 18 (.val (.str (told g.dropLast))), ?_, ⟨⟨H.g1, H.g3, H.g4, H.g5, H.g6⟩, H.g16, H.g17, rfl, by rw [List.dropLast_eq_take]; exact hg.take _⟩⟩
  unfold lsB
  exact R_seq (zag (ρ' := LL f2) (E_of e20 rfl) rfl) (zaf (R_seq (zag (ρ' := LL f3) (E_of (V_op2 e21 rfl o_eq0) rfl) rfl) (zaf (R_seq (R_ite c (R_ff zau)) (zaf (R_seq (zag (E_of (zaO (zao (V_v rfl H.g18) rfl) rfl (C.h6 g hg)) rfl) rfl) (zaf zau)))))))
theorem la_turn (C : CF08 cf) (G : G08 P f) (hP : P.length ≤ 100) (hN : ∀ n ∈ P, N8 n) {k : Nat} (hk : k ≤ P.length) (h1 : 0 < k) : ∃ f', ex cf laB (LL (upd f 15 (.val (nI k)))) = some (LL f', .next) ∧ G08 P f' := by
  have hQ : ∀ n ∈ P.take k, N8 n := fun n hn => hN n (List.mem_of_mem_take hn)
  obtain ⟨x, Q, e⟩ : ∃ x Q, P.take k = x :: Q := by
    cases e : P.take k with
    | nil =>
      have := congrArg List.length e
      rw [List.length_take_of_le hk] at this
      exact absurd this (Nat.ne_of_gt h1)
    | cons x Q => exact ⟨x, Q, rfl⟩
  have s : opF .slice [.list (P.map fun n => .str (told n)), .none, nI k] = some (.own ((x :: Q).map fun n => .str (told n))) := by
    have := zfD (l := P.map fun n => D.str (told n)) (n := k) (Nat.le_trans hk (Nat.le_trans hP (by decide))) (by rw [List.length_map]; exact hk)
    rw [← List.map_take, e] at this
    exact this
  rw [e] at hQ
  obtain ⟨p, e13, hp⟩ := C.h13 (x :: Q) (List.cons_ne_nil _ _) hQ
  let f2 := upd (upd f 15 (.val (nI k))) 16 (.val (.list ((x :: Q).map fun n => .str (told n))))
  let f3 := upd f2 17 (.val (.str (told p)))
  let f4 := upd f3 18 (.val (.str (told x)))
  have H : H08 P (x :: Q) p x f4 := ⟨⟨G.g1, G.g3, G.g4, G.g5, G.g6⟩, rfl, rfl, rfl, hQ x List.mem_cons_self⟩
  obtain ⟨_, lp, f', g, rfl, H'⟩ := zdf (cf := cf) (i := 19) (b := lsB) (I := fun _ ρ => ∃ f g, ρ = LL f ∧ H08 P (x :: Q) p g f) (a := 0) (m := 5) (ρ := LL f4) ⟨f4, x, rfl, H⟩ fun j ρ _ _ J => by
    obtain ⟨f, g, rfl, H⟩ := J
    obtain ⟨f', e, H'⟩ := ls_turn (k := j) C hQ (List.cons_ne_nil _ _) hp H
    exact ⟨LL f', .next, e, .inl rfl, f', _, rfl, H'⟩
  refine ⟨f', ?_, ⟨H'.g1, H'.g3, H'.g4, H'.g5, H'.g6⟩⟩
  unfold laB
  exact R_seq (zag (ρ' := LL f2) (E_of (V_op3 (V_v rfl G.g4) rfl (V_v rfl rfl) s) rfl) rfl) (zaf (R_seq (zag (ρ' := LL f3) (E_of (zaO (zao (V_v rfl rfl) rfl) rfl e13) rfl) rfl) (zaf (R_seq (zag (ρ' := LL f4) (E_of (V_op2 (V_v rfl rfl) rfl (zbK (k := 0) rfl (Nat.zero_le _))) rfl) rfl) (zaf
    (R_seq (R_for (I_of (zcG (zao rfl rfl) (zbJ (n := 5) (by decide)))) lp) (zaf zau)))))))
theorem la_loop (C : CF08 cf) (G : G08 P f) (hP : P.length = 6) (hN : ∀ n ∈ P, N8 n) : ∃ f', forGo (put1 15) (ex cf laB) [nI 1, nI 3, nI P.length] (LL f) = some (LL f', .next) ∧ G08 P f' := by
  obtain ⟨_, e, f', rfl, G'⟩ := zjX (cf := cf) (i := 15) (b := laB) (I := fun ρ => ∃ f, ρ = LL f ∧ G08 P f) (l := [1, 3, 6].map nI) (ρ := LL f) ⟨f, rfl, G⟩ fun d hd ρ J => by
    obtain ⟨f, rfl, G⟩ := J
    obtain ⟨k, hk, rfl⟩ := List.mem_map.mp hd
    have := (show ∀ k ∈ [1, 3, 6], k ≤ 6 ∧ 0 < k by decide) k hk
    obtain ⟨f', e, G'⟩ := la_turn C G (by rw [hP]; decide) hN (hP ▸ this.1) this.2
    exact ⟨LL f', e, f', rfl, G'⟩
  exact ⟨f', by rw [hP]; exact e, G'⟩
end
theorem o_dropl {l : List D} (h : l.length ≤ 1000000) : opF .slice [.list l, .none, .int (-1)] = some (.own l.dropLast) := by
  cases l with
  | nil => rfl
  | cons d l =>
    show some (R.own (cut (d :: l) 0 (clip (-1) (l.length + 1)))) = _
    have : clip (-1) (l.length + 1) = l.length := by
      unfold clip
      rw [if_pos (by decide), Int.natCast_succ, ← Int.add_assoc, Int.add_comm (-1), Int.add_assoc]
      exact Int.toNat_natCast _
    rw [this, List.dropLast_eq_take]; rfl
section
variable {cf : Nat → List D → Option D} {f : Nat → Slot} {P : List Nm}
noncomputable def dnB : S := (.seq (.ite (.op .ne (.cons (.call 6 (.cons (.op .index (.cons (.var 4) (.cons (.var 2) .nil))) .nil)) (.cons (.call 33 (.cons (.op .slice (.cons (.op .index (.cons (.var 3) (.cons (.var 2) .nil))) (.cons (.const .none) (.cons (.op .neg (.cons (.const (.int 1)) .nil)) .nil)))) .nil)) .nil))) (.seq (.ret (.const (.bool false))) .skip) .skip) .skip)
noncomputable def unB : S := (.seq (.append 6 (.call 1 (.cons (.op .add (.cons (.call 26 (.cons (.op .rstrip (.cons (.var 7) (.cons (.const (.str [47])) .nil))) .nil)) (.cons (.const (.str [47, 42])) .nil))) (.cons (.var 1) (.cons (.const (.str [46])) .nil))))) .skip)
set_option genInjectivity false in
structure E08 (P : List Nm) (f : Nat → Slot) : Prop where
  g1 : f 1 = .val (.tok 0)
  g3 : f 3 = .val (.list (P.map nD))
  g4 : f 4 = .val (.list (P.map fun n => .str (told n)))
  na : NA f
theorem dn_loop (C : CF08 cf) (E : E08 P f) (hP : P.length ≤ 100) (hN : ∀ n ∈ P, N8 n) : ∃ f', forGo (put1 2) (ex cf dnB) ((List.range' 0 P.length).map nI) (LL f) = some (LL f', .next) ∧ E08 P f' := by
  obtain ⟨_, e, f', rfl, E'⟩ := zdf (cf := cf) (i := 2) (b := dnB) (I := fun _ ρ => ∃ f, ρ = LL f ∧ E08 P f) (a := 0) (m := P.length) (ρ := LL f) ⟨f, rfl, E⟩ fun i ρ _ hi J => by
    obtain ⟨f, rfl, E⟩ := J
    rw [Nat.zero_add] at hi
    have hn := hN _ (zde hi [])
    have p1 := zdm (cf := cf) E.g4 (ρ := LL (upd f 2 (.val (nI i)))) (j := 2) rfl rfl hi hP
    have p2 := zhf (cf := cf) E.g3 (ρ := LL (upd f 2 (.val (nI i)))) (j := 2) rfl rfl hi hP
    generalize P.getD i [] = n at *
    have s : opF .slice [nD n, .none, .int (-1)] = some (.own (n.dropLast.map .str)) := by
      have := o_dropl (l := n.map .str) (by rw [List.length_map]; exact Nat.le_trans hn.len (by decide))
      rw [← List.map_dropLast] at this
      exact this
    have h33 := C.h33 n.dropLast (by rw [List.dropLast_eq_take]; exact hn.take _)
    refine ⟨LL (upd f 2 (.val (nI i))), .next, ?_, .inl rfl, _, rfl, E.g1, E.g3, E.g4, E.na.upd fun _ => rfl⟩
    unfold dnB
    exact R_seq (R_ite (t := false) (T_of (V_op2 (zaO (zao p1 rfl) rfl (C.h6 n hn)) (zaO (zao (V_op3 p2 rfl (V_op1 rfl rfl) s) rfl) rfl h33) zhe)) (R_ff zau)) (zaf zau)
  exact ⟨f', e, E'⟩
theorem ziO (C : CF08 cf) : ∀ (R Q : List Nm) (f : Nat → Slot), (∀ n ∈ R, N8 n) → Q.length + R.length ≤ 100 → f 1 = .val (.tok 0) → f 6 = .own (Q.map UD) → ∃ v, forGo (put1 7) (ex cf unB) (R.map fun n => .str (told n)) (LL f) = some (LL (upd (upd f 7 v) 6 (.own ((Q ++ R).map UD))), .next)
  | [], Q, f, _, _, _, h6 => ⟨f 7, by
    have : upd (upd f 7 (f 7)) 6 (.own ((Q ++ []).map UD)) = f := by
      rw [List.append_nil, ← h6]
      funext k
      unfold upd
      split
      · rename_i h; rw [h]
      · split
        · rename_i h; rw [h]
        · rfl
    rw [this]; rfl⟩
  | n :: R, Q, f, hN, hl, h1, h6 => by
    have hn := hN n List.mem_cons_self
    have h1' : (upd f 7 (.val (.str (told n)))) 1 = .val (.tok 0) := h1
    have q := zhA C (ρ := LL (upd f 7 (.val (.str (told n))))) (i := 7) hn rfl (congrArg some h1')
    have h6' : ownAt (LL (upd f 7 (.val (.str (told n))))) 6 = some (Q.map UD) := by
      show (match some (f 6) with | some (.own l) => some l | _ => none) = _
      rw [h6]
    rw [List.length_cons, ← Nat.succ_add_eq_add_succ] at hl
    obtain ⟨v, e⟩ := ziO C R (Q ++ [n]) (upd (upd f 7 (.val (.str (told n)))) 6 (.own ((Q ++ [n]).map UD))) (fun m hm => hN m (List.mem_cons_of_mem _ hm)) (by rw [List.length_append]; exact hl) h1 rfl
    rw [List.append_assoc] at e
    refine ⟨v, ?_⟩
    unfold unB at e ⊢
    exact zaK (st := put1 7) zjc (R_seq (zbH (E_of q rfl) h6' (by rw [List.length_map]; exact Nat.lt_of_le_of_lt (Nat.le_trans (Nat.le_add_right _ _) (Nat.le_of_succ_le (by rw [← Nat.succ_add]; exact hl))) (by decide)) (by rw [show Q.map UD ++ [UD n] = (Q ++ [n]).map UD by rw [List.map_append]; rfl]; rfl)) (zaf zau)) (zbt e)
end
noncomputable def S08 (ns : List Int) (k : Nat) : Nat := (pick ns (some (k : Int)) none (some 4)).sum.natAbs
theorem cf08 : CF08 (callF fns08 40) where
  h1 := fun as h hl => trans8 38 h hl
  h6 := fun n h => dir8 38 h
  h11 := fun a b ha hb => zik (fns := fns08) rfl rfl rfl rfl rfl rfl 35 ha.cl hb.cl (Nat.le_trans ha.len (by decide)) (Nat.le_trans hb.len (by decide)) (fun w h => Nat.le_trans (word8 w (ha.wd w h)).1 (by decide)) fun w h => Nat.le_trans (word8 w (hb.wd w h)).1 (by decide)
  h13 := fun L h0 hN => zfS (fns := fns08) rfl rfl 38 (r := true) h0 (fun n hn => (hN n hn).cl) (fun n hn => Nat.le_trans (hN n hn).len (by decide)) fun n hn w hw => Nat.le_trans (word8 w ((hN n hn).wd w hw)).1 (by decide)
  h15 := fun as w h hw hl => tt8 38 h hw hl
  h18 := fun l => drawn8 39 l
  h26 := fun t h hl => quoted8 39 h hl
  h33 := fun ns h => told8 39 h
theorem ziu (ns : List Int) : ∃ ρ', ex (callF fns08 40) s_law [.val (.list (ns.map .int)), .val (.tok 0), .unset, .unset, .unset, .unset, .unset, .unset, .unset, .unset, .unset, .unset, .unset, .unset, .unset, .unset, .unset, .unset, .unset, .unset, .unset, .unset, .unset, .unset, .unset] = some (ρ', .ret (.bool true)) := by
  have C := cf08
  generalize callF fns08 40 = cf at C
  let num : Nat → Nat := fun k => S08 ns k + ([7, 186, 2, 0] : List Nat).getD k 0
  obtain ⟨dr, hdr⟩ : ∃ dr : Nat → Nm, ∀ l, cf 18 [nI l] = some (nD (dr l)) ∧ N8 (dr l) := ⟨fun l => (C.h18 l).choose, fun l => (C.h18 l).choose_spec⟩
  let P0 : List Nm := (List.range' 0 4).map fun k => dr (num k)
  let P : List Nm := P0 ++ [[[97]], [[97, 91]]]
  have hP : P.length = 6 := rfl
  have hN : ∀ n ∈ P, N8 n := fun n hn => by
    rcases List.mem_append.mp hn with h | h
    · obtain ⟨k, _, rfl⟩ := List.mem_map.mp h
      exact (hdr _).2
    · have := (show ∀ n ∈ ([[[97]], [[97, 91]]] : List Nm), n.length ≤ 4 ∧ ∀ w ∈ n, w ∈ wd8 by decide) n h
      exact ⟨this.1, this.2⟩
  let f0 : Nat → Slot := fun k => if k = 0 then .val (.list (ns.map .int)) else if k = 1 then .val (.tok 0) else .unset
  have n0 : NA f0 := fun i k => by
    show appOK k (if i = 0 then _ else if i = 1 then _ else _) = true
    split
    · rfl
    · split <;> rfl
  let f1 := upd f0 3 (.val (.list (P0.map nD)))
  let f2 := upd f1 3 (.val (.list (P.map nD)))
  let f3 := upd f2 4 (.val (.list (P.map fun n => .str (told n))))
  have e1 : ev cf (.comp 22 (.rangeI (.cons (.const (.int 4)) .nil)) (.const (.bool true)) (.call 18 (.cons (.op .add (.cons (.op .abs (.cons (.op .sum (.cons (.op .slice3 (.cons (.var 0) (.cons (.var 22) (.cons (.const .none) (.cons (.const (.int 4)) .nil))))) .nil)) .nil)) (.cons (.op .index (.cons (.tup (.cons (.const (.int 7)) (.cons (.const (.int 186)) (.cons (.const (.int 2)) (.cons (.const (.int 0)) .nil))))) (.cons (.var 22) .nil))) .nil))) .nil))) (LL f0) = some [.own ((List.range' 0 4).map fun k => nD (dr (num k)))] := by
    refine zeD (g := nI) (zcG (zao rfl rfl) (zbJ (n := 4) (by decide))) fun k hk => ?_
    have hk := List.mem_range'_1.mp hk
    have i2 := tupn_at (l := [7, 186, 2, 0]) (k := k) hk.2 (Nat.le_trans (Nat.le_of_lt hk.2) (by decide))
    exact ⟨_, zaO (zao (V_op2 (V_op1 (V_op1 (V_op (zao rfl (zao rfl (zao rfl (zao rfl rfl)))) (zkP (ns := ns) (k := k) (n := 4) (Nat.le_trans (Nat.le_of_lt hk.2) (by decide)) (by decide) (by decide))) o_sumi) zlt) (V_op2 (a := .val (.tup (([7, 186, 2, 0] : List Nat).map fun (n : Nat) => .int (n : Int)))) rfl (V_v rfl rfl) i2) (o_addn (a := S08 ns k))) rfl) rfl (hdr (num k)).1, rfl⟩
  have e2 : ev cf (.op .add (.cons (.var 3) (.cons (.list (.cons (.list (.cons (.const (.str [97])) .nil)) (.cons (.list (.cons (.const (.str [97, 91])) .nil)) .nil))) .nil))) (LL f1) = some [.own (P.map nD)] := V_op2 (b := .own [nD [[97]], nD [[97, 91]]]) (V_v rfl rfl) rfl (by rw [show P.map nD = P0.map nD ++ [nD [[97]], nD [[97, 91]]] from List.map_append]; exact zjp (show 6 ≤ lim by decide))
  have e3 : ev cf (.comp 23 (.seqI (.var 3)) (.const (.bool true)) (.call 33 (.cons (.var 23) .nil))) (LL f2) = some [.own (P.map fun n => .str (told n))] :=
    zeD (g := nD) (l := P) (v := fun n => .str (told n)) (zck (V_v rfl rfl) rfl rfl) fun n hn => ⟨_, zaO (zao (V_v rfl rfl) rfl) rfl (C.h33 n (hN n hn)), rfl⟩
  have E3 : E08 P f3 := ⟨rfl, rfl, rfl, ((n0.upd fun _ => rfl).upd fun _ => rfl).upd fun _ => rfl⟩
  have hle : P.length ≤ 100 := by rw [hP]; decide
  obtain ⟨f4, l4, E4⟩ := dn_loop C E3 hle hN
  let f5 := upd f4 5 (.val AD)
  let f6 := upd f5 6 (.own [])
  obtain ⟨v, l6⟩ := ziO C P [] f6 hN (by rw [hP]; decide) E4.g1 rfl
  let f7 := upd (upd f6 7 v) 6 (.own (P.map UD))
  have G7 : G08 P f7 := ⟨E4.g1, E4.g3, E4.g4, rfl, rfl⟩
  obtain ⟨f8, l8, G8⟩ := pr_loop C G7 hle hN
  obtain ⟨f9, l9, G9⟩ := la_loop C G8 hP hN
  have na5 : NA f5 := E4.na.upd fun _ => rfl
  have z6 : noApp 6 (LL f5) = true := by
    rw [zcb]
    unfold LL
    simp only [List.all_cons, List.all_nil, na5 _ 6, zbl, Bool.and_true]
  have h1 := C.h1 [2, 2, 5, 9] (by decide) (by decide)
  have r : ∀ {g : Nat → Slot}, g 3 = .val (.list (P.map nD)) → evI cf (.rangeI (.cons (.op .len (.cons (.var 3) .nil)) .nil)) (LL g) = some ((List.range' 0 P.length).map nI) := fun {g} h => I_of (zcG (zao (V_op1 (V_v rfl h) zdH) rfl) (zbJ (Nat.le_trans hle (by decide))))
  have r4 : ∀ {g : Nat → Slot}, g 4 = .val (.list (P.map fun n => .str (told n))) → evI cf (.rangeI (.cons (.op .len (.cons (.var 4) .nil)) .nil)) (LL g) = some ((List.range' 0 P.length).map nI) := fun {g} h => I_of (zcG (zao (V_op1 (V_v rfl h) zdH) rfl) (zbJ (Nat.le_trans hle (by decide))))
  have r9 : evI cf (.seqI (.tup (.cons (.const (.int 1)) (.cons (.const (.int 3)) (.cons (.op .len (.cons (.var 4) .nil)) .nil))))) (LL f8) = some [nI 1, nI 3, nI P.length] := by
    have : ev cf (.op .len (.cons (.var 4) .nil)) (LL f8) = some [.val (nI P.length)] := V_op1 (V_v rfl G8.g4) zdH
    refine I_of (zck (a := .val (.tup [nI 1, nI 3, nI P.length])) (d := .tup [nI 1, nI 3, nI P.length]) ?_ rfl rfl)
    rw [zbs, zao rfl (zao rfl (zao this rfl))]; rfl
  show ∃ ρ', ex cf s_law (LL f0) = _
  unfold dnB at l4
  unfold unB at l6
  unfold prB prWC prWB prC1 prC2 prC3 prC4 at l8
  unfold laB at l9
  unfold s_law
  exact ⟨LL f9, R_seq (zag (ρ' := LL f1) (E_of e1 rfl) rfl) (zaf (R_seq (zag (ρ' := LL f2) (E_of e2 rfl) rfl) (zaf (R_seq (zag (ρ' := LL f3) (E_of e3 rfl) rfl) (zaf
    (R_seq (R_for (r (g := f3) rfl) l4) (zaf (R_seq (zag (ρ' := LL f5) (E_of (zaO (zao rfl (zao (V_v rfl E4.g1) (zao rfl rfl))) rfl h1) rfl) rfl) (zaf (R_seq (zbf (ρ' := LL f6) z6 (l := []) rfl rfl) (zaf
    (R_seq (R_for (I_of (zck (V_v rfl E4.g4) rfl rfl)) l6) (zaf (R_seq (R_for (r4 G7.g4) l8) (zaf (R_seq (R_for r9 l9) (zaf (R_seq (R_ret rfl) zan))))))))))))))))))⟩
end Mine
end
open PySem PySem.Calls PyProof.Rows PySem.Builtin.Str PySem.W PySem.W.X PySem.W.ZRun
namespace Mine
noncomputable abbrev fa08 : Nat → Addr := fun i => ([197, 204, 111, 132, 139, 0, 153, 146, 0, 160, 167, 175, 118, 180, 211, 216, 0, 0, 228, 0, 0, 0, 0, 0, 0, 0, 221, 0, 0, 0, 0, 0, 0, 235, 0, 240] : List Addr).getD i 0
theorem zep {β : Type} {x : Nat} {b : β} : ∀ {l : List (Nat × β)}, l.lookup x = some b → (x, b) ∈ l
  | [], e => by cases e
  | (y, c) :: r, e => by
    rw [List.lookup_cons] at e
    cases hx : x == y with
    | true =>
      rw [hx] at e
      cases e
      rw [beq_iff_eq.mp hx]
      exact List.mem_cons_self
    | false =>
      rw [hx] at e
      exact List.mem_cons_of_mem _ (zep e)
noncomputable def rho08 (ns : List Int) : List Slot := [.val (.list (ns.map .int))] ++ List.replicate 24 .unset
theorem zg4 (ns : List Int) : PlainRho (rho08 ns) := by
  intro j
  match j with
  | 0 => exact .inr ⟨ns, rfl⟩
  | j + 1 =>
    left
    unfold slotAt rho08
    rw [List.getD_eq_getElem?_getD, List.singleton_append, List.getElem?_cons_succ, List.getElem?_replicate]
    split <;> rfl
theorem zit (ns : List Int) : ∃ ρ', ex (callF fns08 40) s_law ((rho08 ns).set 1 (.val (.tok 0))) = some (ρ', .ret (.bool true)) :=
  ziu ns
end Mine
set_option maxHeartbeats 0 in
theorem PySem.Challenge.cw_dn0069_08_holds : PySem.Challenge.rw_dn0069_08.Holds := by
  w_on; refine holds_law Mine.said08 fun said => ?_
  refine holds_openX (q := Mine.view08) (loose := [PySem.Str.ofString "relpath", PySem.Str.ofString "_twin_re_1", PySem.Str.ofString "_special_chars_map"]) (Xt := fun s => xlAt Mine.view08 [] s && recOk (RowW.records PySem.Challenge.rw_dn0069_08.row.toRowW) s) (XP := XL Mine.view08 []) (Yf := obsZ Mine.zas) (Ya := valZ Mine.zk 241 760) (N := 5366) ?hl (fun s e => xl_of s (Bool.and_eq_true_iff.mp e).1) XL.keeps (by rfl) (by rfl) (by rfl) (fun s e => recFacts_of (Bool.and_eq_true_iff.mp e).2) (by rfl) (by first | assumption | decide +kernel) (by decide +kernel) ⟨rfl, rfl, rfl, rfl, rfl, by decide +kernel⟩ ?hw ?hc
  case hl => exact Mine.hleft
  case hw => w_witness2
  k_fill
  intro w s₀ s₁ mg mb G y fa o pm cd doc dV kV ho hd hcd hD hmg hg args vals as hL0 hpre hlay hrd hwl hlo
  have Zf := z_facts Mine.zkeys y
  have KX := InK.keeps w s₀.heap s₁.heap Zf.2.1 hL0.keeps
  have ZN := Zf.2.2.1
  refine Ground.open G ?_
  intro T0 B D TE TW
  wrow_args hpre hlay hrd hwl hlo
  obtain ⟨hat, hsz⟩ := script_at hL0
  rw [ZN] at hat hsz
  subst hat
  have hfa := Value.ref.inj (Option.some.inj (hmg.symm.trans (mg_of (v := .ref 240) KX T0.g rfl)))
  subst hfa
  refine enter_call ?_
  have hT : TabsAt [(203, 199)] s₁.heap := List.forall_mem_cons.mpr ⟨⟨codeHd_of_K KX (by kernel_rfl), KX 199 _ rfl⟩, fun _ h => nomatch h⟩
  have X := Mine.zgv (c := 203) (P := 199) KX
  rename IntsAre _ _ => hI
  rename Heap.IsList _ _ _ => hIL
  rename List Int => ns
  have hlen := hI.length
  have hobj := script_obj hL0 hIL
  have hcx : ∀ T, Mine.Inj T → Mine.CxOk (Mine.mkCx PySem.Challenge.rw_dn0069_08.row.prog w s₁.heap 203 199 Mine.qs08 mg mb Mine.fa08 T) := fun T1 h1 => Mine.cxOk_of hT X T0 (by decide +kernel) rfl (by rfl) h1
  have hN : ∀ T, Mine.GN (Mine.mkCx PySem.Challenge.rw_dn0069_08.row.prog w s₁.heap 203 199 Mine.qs08 mg mb Mine.fa08 T) Mine.fs08 Mine.bs08 := fun T => Mine.gn_of (List.forall_mem_cons.mpr ⟨mg_of KX T0.g rfl, List.forall_mem_cons.mpr ⟨mg_of KX T0.g rfl, List.forall_mem_cons.mpr ⟨mg_of KX T0.g rfl, List.forall_mem_cons.mpr ⟨mg_of KX T0.g rfl, List.forall_mem_cons.mpr ⟨mg_of KX T0.g rfl, List.forall_mem_cons.mpr ⟨mg_of KX T0.g rfl, List.forall_mem_cons.mpr ⟨mg_of KX T0.g rfl, List.forall_mem_cons.mpr ⟨mg_of KX T0.g rfl, List.forall_mem_cons.mpr ⟨mg_of KX T0.g rfl, List.forall_mem_cons.mpr ⟨mg_of KX T0.g rfl, List.forall_mem_cons.mpr ⟨mg_of KX T0.g rfl, List.forall_mem_cons.mpr ⟨mg_of KX T0.g rfl, List.forall_mem_cons.mpr ⟨mg_of KX T0.g rfl, List.forall_mem_cons.mpr ⟨mg_of KX T0.g rfl, List.forall_mem_cons.mpr ⟨mg_of KX T0.g rfl, List.forall_mem_cons.mpr ⟨mg_of KX T0.g rfl, List.forall_mem_cons.mpr ⟨mg_of KX T0.g rfl, List.forall_mem_cons.mpr ⟨mg_of KX T0.g rfl, fun _ h => nomatch h⟩⟩⟩⟩⟩⟩⟩⟩⟩⟩⟩⟩⟩⟩⟩⟩⟩⟩) (List.forall_mem_cons.mpr ⟨mg_none_of KX T0.g rfl, List.forall_mem_cons.mpr ⟨mg_none_of KX T0.g rfl, List.forall_mem_cons.mpr ⟨mg_none_of KX T0.g rfl, List.forall_mem_cons.mpr ⟨mg_none_of KX T0.g rfl, List.forall_mem_cons.mpr ⟨mg_none_of KX T0.g rfl, List.forall_mem_cons.mpr ⟨mg_none_of KX T0.g rfl, List.forall_mem_cons.mpr ⟨mg_none_of KX T0.g rfl, List.forall_mem_cons.mpr ⟨mg_none_of KX T0.g rfl, List.forall_mem_cons.mpr ⟨mg_none_of KX T0.g rfl, List.forall_mem_cons.mpr ⟨mg_none_of KX T0.g rfl, List.forall_mem_cons.mpr ⟨mg_none_of KX T0.g rfl, List.forall_mem_cons.mpr ⟨mg_none_of KX T0.g rfl, List.forall_mem_cons.mpr ⟨mg_none_of KX T0.g rfl, List.forall_mem_cons.mpr ⟨mg_none_of KX T0.g rfl, List.forall_mem_cons.mpr ⟨mg_none_of KX T0.g rfl, List.forall_mem_cons.mpr ⟨mg_none_of KX T0.g rfl, fun _ h => nomatch h⟩⟩⟩⟩⟩⟩⟩⟩⟩⟩⟩⟩⟩⟩⟩⟩)
  have hsp : mg (PySem.Str.ofString "_special_chars_map") = some (.ref 187) := mg_of KX T0.g rfl
  have htw : mg (PySem.Str.ofString "_twin_re_1") = some (.ref 185) := mg_of KX T0.g rfl
  have hTG : ∀ T, ∃ TG : Mine.TabG (Mine.mkCx PySem.Challenge.rw_dn0069_08.row.prog w s₁.heap 203 199 Mine.qs08 mg mb Mine.fa08 T), TG.d = 187 := fun T => Mine.tabG_of X (Nat.ne_of_beq_eq_false rfl) rfl rfl (by decide +kernel) (by decide +kernel)
  have hPG : ∀ T, ∃ PG : Mine.PatG (Mine.mkCx PySem.Challenge.rw_dn0069_08.row.prog w s₁.heap 203 199 Mine.qs08 mg mb Mine.fa08 T), PG.P = 185 := fun T => ⟨{ P := 185, C := 184, codes := _, nP := Nat.ne_of_beq_eq_false rfl, nC := Nat.ne_of_beq_eq_false rfl, at0 := ⟨⟨_, _, _, _, _, 0, X 185 _ rfl, rfl⟩, ⟨_, X 184 _ rfl⟩, by decide +kernel⟩ }, rfl⟩
  have hfn : ∀ T, ∀ i fn, Mine.fns08 i = some fn → ∃ ε fd body ps, Mine.FnIs (Mine.mkCx PySem.Challenge.rw_dn0069_08.row.prog w s₁.heap 203 199 Mine.qs08 mg mb Mine.fa08 T) ε i fn fd body ps ∧ Mine.SoundSs (Mine.mkCx PySem.Challenge.rw_dn0069_08.row.prog w s₁.heap 203 199 Mine.qs08 mg mb Mine.fa08 T) ε body fn.body := by
    intro T
    obtain ⟨TG, hTGd⟩ := hTG T
    obtain ⟨PG, hPGP⟩ := hPG T
    have all : ∀ p ∈ ([(0, Mine.fn_escape), (1, Mine.fn_translate8), (2, Mine.fn_fspath), (3, Mine.fn_get_sep), (4, Mine.fn_join), (6, Mine.fn_dirname), (7, Mine.fn_splitroot), (9, Mine.fn_normpath), (10, Mine.fn_abspath), (11, Mine.fn_relpath), (12, Mine.fn_commonprefix), (13, Mine.fn_commonpath), (14, Mine.fn_law_one), (15, Mine.fn_law_takes), (18, Mine.fn_law_drawn), (26, Mine.fn_law_quoted), (33, Mine.fn_law_told)] : List (Nat × Mine.Fn)), ∃ ε fd body ps, Mine.FnIs (Mine.mkCx PySem.Challenge.rw_dn0069_08.row.prog w s₁.heap 203 199 Mine.qs08 mg mb Mine.fa08 T) ε p.1 p.2 fd body ps ∧ Mine.SoundSs (Mine.mkCx PySem.Challenge.rw_dn0069_08.row.prog w s₁.heap 203 199 Mine.qs08 mg mb Mine.fa08 T) ε body p.2.body :=
      List.forall_mem_cons.mpr ⟨⟨_, _, _, _, Mine.FnIs.ofK (cx := (Mine.mkCx PySem.Challenge.rw_dn0069_08.row.prog w s₁.heap 203 199 Mine.qs08 mg mb Mine.fa08 T)) (ε := Mine.sc_escape) (i := 0) (a := 197) (fn := Mine.fn_escape) (body := (Mine.nthBody PySem.Challenge.pw_dn0069_08 26)) (ps := [PySem.Str.ofString "pattern"]) X rfl (Nat.ne_of_beq_eq_false rfl) rfl (by rfl) (Nat.ne_of_beq_eq_false rfl) (fun c q e => nomatch e) (Mine.zat rfl (Mine.len1 fun _ => rfl)) rfl rfl rfl rfl rfl, Mine.zig (hN T) TG (hTGd ▸ hsp)⟩,
      List.forall_mem_cons.mpr ⟨⟨_, _, _, _, Mine.FnIs.ofK (cx := (Mine.mkCx PySem.Challenge.rw_dn0069_08.row.prog w s₁.heap 203 199 Mine.qs08 mg mb Mine.fa08 T)) (ε := Mine.sc_translate8 203) (i := 1) (a := 204) (fn := Mine.fn_translate8) (body := (Mine.nthBody PySem.Challenge.pw_dn0069_08 28)) (ps := [PySem.Str.ofString "pat", PySem.Str.ofString "STAR", PySem.Str.ofString "QUESTION_MARK"]) X rfl (Nat.ne_of_beq_eq_false rfl) rfl (by rfl) (Nat.ne_of_beq_eq_false rfl) (fun c q e => by cases e; exact ⟨rfl, rfl⟩) (Mine.zat rfl (Mine.len3 fun _ _ _ => rfl)) rfl rfl rfl rfl rfl, Mine.zeN (hN T) (Mine.lamG_of hT T0 (List.pairwise_singleton _ _)) PG (hPGP ▸ htw) rfl⟩,
      List.forall_mem_cons.mpr ⟨⟨_, _, _, _, Mine.FnIs.ofK (cx := (Mine.mkCx PySem.Challenge.rw_dn0069_08.row.prog w s₁.heap 203 199 Mine.qs08 mg mb Mine.fa08 T)) (ε := Mine.sc_fspath) (i := 2) (a := 111) (fn := Mine.fn_fspath) (body := (Mine.nthBody PySem.Challenge.pw_dn0069_08 10)) (ps := [PySem.Str.ofString "path"]) X rfl (Nat.ne_of_beq_eq_false rfl) rfl (by rfl) (Nat.ne_of_beq_eq_false rfl) (fun c q e => nomatch e) (Mine.zat rfl (Mine.len1 fun _ => rfl)) rfl rfl rfl rfl rfl, Mine.zif (hN T)⟩,
      List.forall_mem_cons.mpr ⟨⟨_, _, _, _, Mine.FnIs.ofK (cx := (Mine.mkCx PySem.Challenge.rw_dn0069_08.row.prog w s₁.heap 203 199 Mine.qs08 mg mb Mine.fa08 T)) (ε := Mine.sc_get_sep) (i := 3) (a := 132) (fn := Mine.fn_get_sep) (body := (Mine.nthBody PySem.Challenge.pw_dn0069_08 15)) (ps := [PySem.Str.ofString "path"]) X rfl (Nat.ne_of_beq_eq_false rfl) rfl (by rfl) (Nat.ne_of_beq_eq_false rfl) (fun c q e => nomatch e) (Mine.zat rfl (Mine.len1 fun _ => rfl)) rfl rfl rfl rfl rfl, Mine.zgZ (hN T)⟩,
      List.forall_mem_cons.mpr ⟨⟨_, _, _, _, Mine.FnIs.ofK (cx := (Mine.mkCx PySem.Challenge.rw_dn0069_08.row.prog w s₁.heap 203 199 Mine.qs08 mg mb Mine.fa08 T)) (ε := Mine.sc_join) (i := 4) (a := 139) (fn := Mine.fn_join) (body := (Mine.nthBody PySem.Challenge.pw_dn0069_08 16)) (ps := [PySem.Str.ofString "a", PySem.Str.ofString "p"]) X rfl (Nat.ne_of_beq_eq_false rfl) rfl (by rfl) (Nat.ne_of_beq_eq_false rfl) (fun c q e => nomatch e) (Mine.zkk rfl rfl fun v r => by cases r <;> kernel_rfl) rfl rfl rfl rfl rfl, Mine.zky (hN T)⟩,
      List.forall_mem_cons.mpr ⟨⟨_, _, _, _, Mine.FnIs.ofK (cx := (Mine.mkCx PySem.Challenge.rw_dn0069_08.row.prog w s₁.heap 203 199 Mine.qs08 mg mb Mine.fa08 T)) (ε := Mine.sc_dirname) (i := 6) (a := 153) (fn := Mine.fn_dirname) (body := (Mine.nthBody PySem.Challenge.pw_dn0069_08 18)) (ps := [PySem.Str.ofString "p"]) X rfl (Nat.ne_of_beq_eq_false rfl) rfl (by rfl) (Nat.ne_of_beq_eq_false rfl) (fun c q e => nomatch e) (Mine.zat rfl (Mine.len1 fun _ => rfl)) rfl rfl rfl rfl rfl, Mine.zg0 (hN T)⟩,
      List.forall_mem_cons.mpr ⟨⟨_, _, _, _, Mine.FnIs.ofK (cx := (Mine.mkCx PySem.Challenge.rw_dn0069_08.row.prog w s₁.heap 203 199 Mine.qs08 mg mb Mine.fa08 T)) (ε := Mine.sc_splitroot) (i := 7) (a := 146) (fn := Mine.fn_splitroot) (body := (Mine.nthBody PySem.Challenge.pw_dn0069_08 17)) (ps := [PySem.Str.ofString "p"]) X rfl (Nat.ne_of_beq_eq_false rfl) rfl (by rfl) (Nat.ne_of_beq_eq_false rfl) (fun c q e => nomatch e) (Mine.zat rfl (Mine.len1 fun _ => rfl)) rfl rfl rfl rfl rfl, Mine.zfu (hN T)⟩,
      List.forall_mem_cons.mpr ⟨⟨_, _, _, _, Mine.FnIs.ofK (cx := (Mine.mkCx PySem.Challenge.rw_dn0069_08.row.prog w s₁.heap 203 199 Mine.qs08 mg mb Mine.fa08 T)) (ε := Mine.sc_normpath) (i := 9) (a := 160) (fn := Mine.fn_normpath) (body := (Mine.nthBody PySem.Challenge.pw_dn0069_08 19)) (ps := [PySem.Str.ofString "path"]) X rfl (Nat.ne_of_beq_eq_false rfl) rfl (by rfl) (Nat.ne_of_beq_eq_false rfl) (fun c q e => nomatch e) (Mine.zat rfl (Mine.len1 fun _ => rfl)) rfl rfl rfl rfl rfl, Mine.zgi (hN T)⟩,
      List.forall_mem_cons.mpr ⟨⟨_, _, _, _, Mine.FnIs.ofK (cx := (Mine.mkCx PySem.Challenge.rw_dn0069_08.row.prog w s₁.heap 203 199 Mine.qs08 mg mb Mine.fa08 T)) (ε := Mine.sc_abspath) (i := 10) (a := 167) (fn := Mine.fn_abspath) (body := (Mine.nthBody PySem.Challenge.pw_dn0069_08 20)) (ps := [PySem.Str.ofString "path"]) X rfl (Nat.ne_of_beq_eq_false rfl) rfl (by rfl) (Nat.ne_of_beq_eq_false rfl) (fun c q e => nomatch e) (Mine.zat rfl (Mine.len1 fun _ => rfl)) rfl rfl rfl rfl rfl, Mine.zg1 (hN T)⟩,
      List.forall_mem_cons.mpr ⟨⟨_, _, _, _, Mine.FnIs.ofK (cx := (Mine.mkCx PySem.Challenge.rw_dn0069_08.row.prog w s₁.heap 203 199 Mine.qs08 mg mb Mine.fa08 T)) (ε := Mine.sc_relpath) (i := 11) (a := 175) (fn := Mine.fn_relpath) (body := (Mine.nthBody PySem.Challenge.pw_dn0069_08 21)) (ps := [PySem.Str.ofString "path", PySem.Str.ofString "start"]) X rfl (Nat.ne_of_beq_eq_false rfl) rfl (by rfl) (Nat.ne_of_beq_eq_false rfl) (fun c q e => nomatch e) (Mine.zhp X (Nat.ne_of_beq_eq_false rfl) rfl rfl rfl (Mine.len2 fun _ _ => ⟨_, rfl, rfl⟩)) rfl rfl rfl rfl rfl, Mine.zgX (hN T)⟩,
      List.forall_mem_cons.mpr ⟨⟨_, _, _, _, Mine.FnIs.ofK (cx := (Mine.mkCx PySem.Challenge.rw_dn0069_08.row.prog w s₁.heap 203 199 Mine.qs08 mg mb Mine.fa08 T)) (ε := Mine.sc_commonprefix) (i := 12) (a := 118) (fn := Mine.fn_commonprefix) (body := (Mine.nthBody PySem.Challenge.pw_dn0069_08 12)) (ps := [PySem.Str.ofString "m"]) X rfl (Nat.ne_of_beq_eq_false rfl) rfl (by rfl) (Nat.ne_of_beq_eq_false rfl) (fun c q e => nomatch e) (Mine.zat rfl (Mine.len1 fun _ => rfl)) rfl rfl rfl rfl rfl, Mine.zdQ (hN T)⟩,
      List.forall_mem_cons.mpr ⟨⟨_, _, _, _, Mine.FnIs.ofK (cx := (Mine.mkCx PySem.Challenge.rw_dn0069_08.row.prog w s₁.heap 203 199 Mine.qs08 mg mb Mine.fa08 T)) (ε := Mine.sc_commonpath) (i := 13) (a := 180) (fn := Mine.fn_commonpath) (body := (Mine.nthBody PySem.Challenge.pw_dn0069_08 22)) (ps := [PySem.Str.ofString "paths"]) X rfl (Nat.ne_of_beq_eq_false rfl) rfl (by rfl) (Nat.ne_of_beq_eq_false rfl) (fun c q e => nomatch e) (Mine.zat rfl (Mine.len1 fun _ => rfl)) rfl rfl rfl rfl rfl, Mine.zeP (hN T)⟩,
      List.forall_mem_cons.mpr ⟨⟨_, _, _, _, Mine.FnIs.ofK (cx := (Mine.mkCx PySem.Challenge.rw_dn0069_08.row.prog w s₁.heap 203 199 Mine.qs08 mg mb Mine.fa08 T)) (ε := Mine.sc_law_one) (i := 14) (a := 211) (fn := Mine.fn_law_one) (body := (Mine.nthBody PySem.Challenge.pw_dn0069_08 30)) (ps := [PySem.Str.ofString "part", PySem.Str.ofString "sign"]) X rfl (Nat.ne_of_beq_eq_false rfl) rfl (by rfl) (Nat.ne_of_beq_eq_false rfl) (fun c q e => nomatch e) (Mine.zat rfl (Mine.len2 fun _ _ => rfl)) rfl rfl rfl rfl rfl, Mine.zgY (hN T)⟩,
      List.forall_mem_cons.mpr ⟨⟨_, _, _, _, Mine.FnIs.ofK (cx := (Mine.mkCx PySem.Challenge.rw_dn0069_08.row.prog w s₁.heap 203 199 Mine.qs08 mg mb Mine.fa08 T)) (ε := Mine.sc_law_takes) (i := 15) (a := 216) (fn := Mine.fn_law_takes) (body := (Mine.nthBody PySem.Challenge.pw_dn0069_08 31)) (ps := [PySem.Str.ofString "parts", PySem.Str.ofString "star", PySem.Str.ofString "name"]) X rfl (Nat.ne_of_beq_eq_false rfl) rfl (by rfl) (Nat.ne_of_beq_eq_false rfl) (fun c q e => nomatch e) (Mine.zat rfl (Mine.len3 fun _ _ _ => rfl)) rfl rfl rfl rfl rfl, Mine.zfv (hN T)⟩,
      List.forall_mem_cons.mpr ⟨⟨_, _, _, _, Mine.FnIs.ofK (cx := (Mine.mkCx PySem.Challenge.rw_dn0069_08.row.prog w s₁.heap 203 199 Mine.qs08 mg mb Mine.fa08 T)) (ε := Mine.sc_law_drawn) (i := 18) (a := 228) (fn := Mine.fn_law_drawn) (body := (Mine.nthBody PySem.Challenge.pw_dn0069_08 33)) (ps := [PySem.Str.ofString "number"]) X rfl (Nat.ne_of_beq_eq_false rfl) rfl (by rfl) (Nat.ne_of_beq_eq_false rfl) (fun c q e => nomatch e) (Mine.zat rfl (Mine.len1 fun _ => rfl)) rfl rfl rfl rfl rfl, Mine.zfw (hN T)⟩,
      List.forall_mem_cons.mpr ⟨⟨_, _, _, _, Mine.FnIs.ofK (cx := (Mine.mkCx PySem.Challenge.rw_dn0069_08.row.prog w s₁.heap 203 199 Mine.qs08 mg mb Mine.fa08 T)) (ε := Mine.sc_law_quoted) (i := 26) (a := 221) (fn := Mine.fn_law_quoted) (body := (Mine.nthBody PySem.Challenge.pw_dn0069_08 32)) (ps := [PySem.Str.ofString "text"]) X rfl (Nat.ne_of_beq_eq_false rfl) rfl (by rfl) (Nat.ne_of_beq_eq_false rfl) (fun c q e => nomatch e) (Mine.zat rfl (Mine.len1 fun _ => rfl)) rfl rfl rfl rfl rfl, Mine.zeO (hN T)⟩,
      List.forall_mem_cons.mpr ⟨⟨_, _, _, _, Mine.FnIs.ofK (cx := (Mine.mkCx PySem.Challenge.rw_dn0069_08.row.prog w s₁.heap 203 199 Mine.qs08 mg mb Mine.fa08 T)) (ε := Mine.sc_law_told) (i := 33) (a := 235) (fn := Mine.fn_law_told) (body := (Mine.nthBody PySem.Challenge.pw_dn0069_08 34)) (ps := [PySem.Str.ofString "names"]) X rfl (Nat.ne_of_beq_eq_false rfl) rfl (by rfl) (Nat.ne_of_beq_eq_false rfl) (fun c q e => nomatch e) (Mine.zat rfl (Mine.len1 fun _ => rfl)) rfl rfl rfl rfl rfl, Mine.zgj (hN T)⟩,
      fun _ h => nomatch h⟩⟩⟩⟩⟩⟩⟩⟩⟩⟩⟩⟩⟩⟩⟩⟩⟩
    exact fun i fn h => all (i, fn) (Mine.zep h)
  obtain ⟨ρ', he⟩ := Mine.zit ns
  have hX : ∀ T, Mine.FnIs (Mine.mkCx PySem.Challenge.rw_dn0069_08.row.prog w s₁.heap 203 199 Mine.qs08 mg mb Mine.fa08 T) Mine.sc_law 35 Mine.fn_law _ (Mine.nthBody PySem.Challenge.pw_dn0069_08 35) [PySem.Str.ofString "script"] := fun T => Mine.FnIs.ofK (cx := (Mine.mkCx PySem.Challenge.rw_dn0069_08.row.prog w s₁.heap 203 199 Mine.qs08 mg mb Mine.fa08 T)) (ε := Mine.sc_law) (i := 35) (a := 240) (fn := Mine.fn_law) (body := (Mine.nthBody PySem.Challenge.pw_dn0069_08 35)) (ps := [PySem.Str.ofString "script"]) X rfl (Nat.ne_of_beq_eq_false rfl) rfl (by rfl) (Nat.ne_of_beq_eq_false rfl) (fun c q e => nomatch e) (Mine.zat rfl (Mine.len1 fun _ => rfl)) rfl rfl rfl rfl rfl
  refine Mine.zk4 (cx := (Mine.mkCx PySem.Challenge.rw_dn0069_08.row.prog w s₁.heap 203 199 Mine.qs08 mg mb Mine.fa08 fun k => k)) (i := 35) (i1 := 1) (n := 40) hcx hX (fun T hi => Mine.zfT (hcx T hi) (hfn T) 40) (fun T => Mine.zbb (x := PySem.Str.ofString "star") rfl (by decide) (Mine.zav (.cons (Mine.zab rfl) rfl .nil)) (fun _ _ _ => rfl)) (fun T hi => Mine.snd_law (hN T)) (ns := ns) (ρ := Mine.rho08 ns) rfl (Mine.zg4 ns) rfl (Nat.le_of_ble_eq_true rfl) he (s := s₁) (F := fun a => ∃ o, (ghostOf s₁.heap [(203, 199)]).get? a = some o) ⟨rfl, by decide, by decide, ⟨_, rfl⟩⟩ (Mine.wd_of hT rfl hg) ?_ (fun T F' s' wd os => Mine.zjV hT (fun _ => rfl) (by wrow_post) wd os)
  exact .list ⟨_, ghost_ne hobj (by simp)⟩ hobj (by rw [hlen]; unfold Mine.lim; omega) (Mine.zhR hI)
