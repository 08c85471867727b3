import PyProof.Rows.All
import Wide.All
import OpenK.AllK
import Wide.FinOn
import Lean
import PySem.Challenge.RW_dn0069_07
set_option Elab.async false
set_option maxRecDepth 100000
set_option linter.all false
set_option genSizeOf false
set_option bootstrap.genMatcherCode false
section H07x
open PySem PySem.Calls PySem.W PyProof.Rows PySem.Builtin.Str
open PySem.W.X PySem.W.ZRun
set_option maxHeartbeats 0
namespace Mine
noncomputable def hGo : List Nat → Option Stmt → Option Stmt
  | [], s => s
  | j :: r, some (.ClassDef _ _ _ b _ _ _ _ _ _ _) => hGo r b[j]?
  | j :: r, some (.FunctionDef _ _ b _ _ _ _ _ _ _) => hGo r b[j]?
  | _, _ => none
noncomputable def hAt (p : Program) (l : List Nat) : Option Stmt := match l with
  | [] => none
  | i :: r => hGo r p.main.body[i]?
noncomputable def hPs (s : Option Stmt) : Arguments := match s with
  | some (.FunctionDef _ a _ _ _ _ _ _ _ _) => a
  | _ => default
noncomputable def hBd (s : Option Stmt) : List Stmt := match s with
  | some (.FunctionDef _ _ b _ _ _ _ _ _ _) => b
  | _ => []
noncomputable def hSc (s : Option Stmt) : Scope := match s with
  | some (.FunctionDef _ _ _ _ _ _ s _ _ _) => s
  | _ => default
noncomputable abbrev hs (x : String) : PySem.Str := PySem.Str.ofString x
noncomputable abbrev hk (P : Params) (x : String) (t : Nat) (v : PySem.Value) : DictEntry := ⟨PyData.keyHash P (hs x), .str (hs x) t, v⟩
noncomputable abbrev hW : Program := PySem.Challenge.pw_dn0069_07
noncomputable def view07 : Program := PySem.W.view PySem.Challenge.pw_dn0069_07 [0, 1, 2, 4, 5, 7, 9, 11, 13, 14, 16, 18, 19, 21, 22, 23, 24, 25, 26, 27, 30, 31, 32]
noncomputable def ho1 (P : Params) : Obj := ⟨.type "dict", none, .dict #[hk P "builtins" 162 (.ref 4), hk P "__main__" 163 (.ref 5), hk P "_sre" 244 (.ref 12)] 3, #[]⟩
noncomputable def ho2 (P : Params) : Obj := ⟨.none, none, .dict #[⟨PyData.keyHash P (⟨#[105, 109, 112, 111, 114, 116, 46, 108, 111, 97, 100, 101, 100, 46, 95, 115, 114, 101]⟩), .str (⟨#[105, 109, 112, 111, 114, 116, 46, 108, 111, 97, 100, 101, 100, 46, 95, 115, 114, 101]⟩) 183, .bool true⟩, hk P "class._frozen_importlib.BuiltinImporter" 185 (.ref 14), ⟨PyData.keyHash P (⟨#[119, 97, 116, 99, 104, 101, 100, 46, 105, 109, 112, 111, 114, 116]⟩), .str (⟨#[119, 97, 116, 99, 104, 101, 100, 46, 105, 109, 112, 111, 114, 116]⟩) 206, .ref 18⟩, hk P "class._frozen_importlib.ModuleSpec" 216 (.ref 22), hk P "sys.modules.booked-epoch" 245 (.int (3) 0), ⟨PyData.keyHash P (⟨#[105, 109, 112, 111, 114, 116, 46, 108, 97, 116, 101, 114, 45, 108, 97, 105, 100, 46, 95, 115, 114, 101]⟩), .str (⟨#[105, 109, 112, 111, 114, 116, 46, 108, 97, 116, 101, 114, 45, 108, 97, 105, 100, 46, 95, 115, 114, 101]⟩) 270, .bool true⟩, hk P "watched.library" 272 (.ref 27), ⟨PyData.keyHash P (hs "watched.library-objects"), .str (hs "watched.library-objects") 0, .str ((⟨#[12]⟩ : PySem.Str)) 0⟩, ⟨PyData.keyHash P (hs "watched.library-deep._sre"), .str (hs "watched.library-deep._sre") 273, .str ((⟨#[4, 0, 0, 11, 4, 0, 0, 11, 4, 0, 0, 3, 4, 0, 0, 11, 8, 4, 100, 105, 99, 116, 2]⟩ : PySem.Str)) 0⟩] 9, #[]⟩
noncomputable def ho3 (P : Params) : Obj := ⟨.type "dict", none, .dict #[hk P "__name__" 165 (.str (hs "__main__") 164), hk P "__doc__" 166 (.none), hk P "__package__" 167 (.none), hk P "__loader__" 168 (.builtin "__main__.__loader__#opaque"), hk P "__spec__" 169 (.none), hk P "__annotations__" 170 (.ref 6), hk P "__builtins__" 171 (.ref 4), hk P "__file__" 173 (.str (hs "/claim/cut.py") 172), hk P "__cached__" 174 (.none), hk P "_sre" 275 (.ref 12)] 10, #[]⟩
noncomputable def ho11 (P : Params) : Obj := ⟨.type "dict", none, .dict #[hk P "__name__" 247 (.str (hs "_sre") 246), hk P "__doc__" 248 (.none), hk P "__package__" 250 (.str (hs "") 249), hk P "__loader__" 251 (.builtin "off-the-table:_sre.__loader__:shared#opaque"), hk P "__spec__" 252 (.builtin "off-the-table:_sre.__spec__:shared#opaque"), hk P "compile" 253 (.builtin "_sre.compile"), hk P "template" 254 (.builtin "off-the-table:_sre.template:shared#opaque"), hk P "getcodesize" 255 (.builtin "off-the-table:_sre.getcodesize:shared#opaque"), hk P "ascii_iscased" 256 (.builtin "off-the-table:_sre.ascii_iscased:shared#opaque"), hk P "unicode_iscased" 257 (.builtin "off-the-table:_sre.unicode_iscased:shared#opaque"), hk P "ascii_tolower" 258 (.builtin "off-the-table:_sre.ascii_tolower:shared#opaque"), hk P "unicode_tolower" 259 (.builtin "off-the-table:_sre.unicode_tolower:shared#opaque"), hk P "MAGIC" 261 (.int (20230612) 260), hk P "CODESIZE" 263 (.int (4) 262), hk P "MAXREPEAT" 265 (.int (4294967295) 264), hk P "MAXGROUPS" 267 (.int (1073741823) 266), hk P "copyright" 269 (.str (hs " SRE 2.2.2 Copyright (c) 1997-2002 by Secret Labs AB ") 268)] 17, #[]⟩
noncomputable def ho12 (P : Params) : Obj := ⟨.type "module", (some 11), .plain, #[]⟩
noncomputable def ho13 (P : Params) : Obj := ⟨.type "dict", none, .dict #[hk P "__module__" 189 (.str (hs "_frozen_importlib") 186), hk P "__firstlineno__" 190 (.int (971) 187), hk P "__doc__" 191 (.builtin "_frozen_importlib.BuiltinImporter.__doc__:str#opaque"), hk P "_ORIGIN" 192 (.str (hs "built-in") 188), hk P "find_spec" 193 (.builtin "_frozen_importlib.BuiltinImporter.find_spec#opaque"), hk P "create_module" 194 (.builtin "_frozen_importlib.BuiltinImporter.create_module#opaque"), hk P "exec_module" 195 (.builtin "_frozen_importlib.BuiltinImporter.exec_module#opaque"), hk P "get_code" 196 (.builtin "_frozen_importlib.BuiltinImporter.get_code#opaque"), hk P "get_source" 197 (.builtin "_frozen_importlib.BuiltinImporter.get_source#opaque"), hk P "is_package" 198 (.builtin "_frozen_importlib.BuiltinImporter.is_package#opaque"), hk P "load_module" 199 (.builtin "_frozen_importlib.BuiltinImporter.load_module#opaque"), hk P "__static_attributes__" 200 (.ref 15), hk P "__dict__" 202 (.ref 16), hk P "__weakref__" 204 (.ref 17)] 14, #[]⟩
noncomputable def ho14 (P : Params) : Obj := ⟨.type "type", none, .cls ⟨hs "BuiltinImporter", [.type "object"], [.ref 14, .type "object"], 13, hs "BuiltinImporter", true, [], [], false, none, false⟩, #[]⟩
noncomputable def ho15 (P : Params) : Obj := ⟨.type "tuple", none, .seq #[] 0, #[]⟩
noncomputable def ho16 (P : Params) : Obj := ⟨.type "getset_descriptor", none, .fields #[.str (hs "__dict__") 201, .ref 14, .builtin "function.__dict__", .builtin "function.__dict__#set"], #[]⟩
noncomputable def ho17 (P : Params) : Obj := ⟨.type "getset_descriptor", none, .fields #[.str (hs "__weakref__") 203, .ref 14, .builtin "ExceptionGroup.__weakref__", .none], #[]⟩
noncomputable def ho18 (P : Params) : Obj := ⟨.none, none, .seq #[.int (13) 0, .str ((⟨#[6, 189, 10, 95, 95, 109, 111, 100, 117, 108, 101, 95, 95, 6, 186, 17, 95, 102, 114, 111, 122, 101, 110, 95, 105, 109, 112, 111, 114, 116, 108, 105, 98, 6, 190, 15, 95, 95, 102, 105, 114, 115, 116, 108, 105, 110, 101, 110, 111, 95, 95, 4, 187, 0, 971, 6, 191, 7, 95, 95, 100, 111, 99, 95, 95, 9, 52, 95, 102, 114, 111, 122, 101, 110, 95, 105, 109, 112, 111, 114, 116, 108, 105, 98, 46, 66, 117, 105, 108, 116, 105, 110, 73, 109, 112, 111, 114, 116, 101, 114, 46, 95, 95, 100, 111, 99, 95, 95, 58, 115, 116, 114, 35, 111, 112, 97, 113, 117, 101, 6, 192, 7, 95, 79, 82, 73, 71, 73, 78, 6, 188, 8, 98, 117, 105, 108, 116, 45, 105, 110, 6, 193, 9, 102, 105, 110, 100, 95, 115, 112, 101, 99, 9, 50, 95, 102, 114, 111, 122, 101, 110, 95, 105, 109, 112, 111, 114, 116, 108, 105, 98, 46, 66, 117, 105, 108, 116, 105, 110, 73, 109, 112, 111, 114, 116, 101, 114, 46, 102, 105, 110, 100, 95, 115, 112, 101, 99, 35, 111, 112, 97, 113, 117, 101, 6, 194, 13, 99, 114, 101, 97, 116, 101, 95, 109, 111, 100, 117, 108, 101, 9, 54, 95, 102, 114, 111, 122, 101, 110, 95, 105, 109, 112, 111, 114, 116, 108, 105, 98, 46, 66, 117, 105, 108, 116, 105, 110, 73, 109, 112, 111, 114, 116, 101, 114, 46, 99, 114, 101, 97, 116, 101, 95, 109, 111, 100, 117, 108, 101, 35, 111, 112, 97, 113, 117, 101, 6, 195, 11, 101, 120, 101, 99, 95, 109, 111, 100, 117, 108, 101, 9, 52, 95, 102, 114, 111, 122, 101, 110, 95, 105, 109, 112, 111, 114, 116, 108, 105, 98, 46, 66, 117, 105, 108, 116, 105, 110, 73, 109, 112, 111, 114, 116, 101, 114, 46, 101, 120, 101, 99, 95, 109, 111, 100, 117, 108, 101, 35, 111, 112, 97, 113, 117, 101, 6, 196, 8, 103, 101, 116, 95, 99, 111, 100, 101, 9, 49, 95, 102, 114, 111, 122, 101, 110, 95, 105, 109, 112, 111, 114, 116, 108, 105, 98, 46, 66, 117, 105, 108, 116, 105, 110, 73, 109, 112, 111, 114, 116, 101, 114, 46, 103, 101, 116, 95, 99, 111, 100, 101, 35, 111, 112, 97, 113, 117, 101, 6, 197, 10, 103, 101, 116, 95, 115, 111, 117, 114, 99, 101, 9, 51, 95, 102, 114, 111, 122, 101, 110, 95, 105, 109, 112, 111, 114, 116, 108, 105, 98, 46, 66, 117, 105, 108, 116, 105, 110, 73, 109, 112, 111, 114, 116, 101, 114, 46, 103, 101, 116, 95, 115, 111, 117, 114, 99, 101, 35, 111, 112, 97, 113, 117, 101, 6, 198, 10, 105, 115, 95, 112, 97, 99, 107, 97, 103, 101, 9, 51, 95, 102, 114, 111, 122, 101, 110, 95, 105, 109, 112, 111, 114, 116, 108, 105, 98, 46, 66, 117, 105, 108, 116, 105, 110, 73, 109, 112, 111, 114, 116, 101, 114, 46, 105, 115, 95, 112, 97, 99, 107, 97, 103, 101, 35, 111, 112, 97, 113, 117, 101, 6, 199, 11, 108, 111, 97, 100, 95, 109, 111, 100, 117, 108, 101, 9, 52, 95, 102, 114, 111, 122, 101, 110, 95, 105, 109, 112, 111, 114, 116, 108, 105, 98, 46, 66, 117, 105, 108, 116, 105, 110, 73, 109, 112, 111, 114, 116, 101, 114, 46, 108, 111, 97, 100, 95, 109, 111, 100, 117, 108, 101, 35, 111, 112, 97, 113, 117, 101, 6, 200, 21, 95, 95, 115, 116, 97, 116, 105, 99, 95, 97, 116, 116, 114, 105, 98, 117, 116, 101, 115, 95, 95, 4, 0, 0, 15, 6, 202, 8, 95, 95, 100, 105, 99, 116, 95, 95, 4, 0, 0, 16, 6, 204, 11, 95, 95, 119, 101, 97, 107, 114, 101, 102, 95, 95, 4, 0, 0, 17]⟩ : PySem.Str)) 0, .bool true, .bool true, .str (hs "") 205, .int (21) 0, .str ((⟨#[6, 227, 10, 95, 95, 109, 111, 100, 117, 108, 101, 95, 95, 6, 217, 17, 95, 102, 114, 111, 122, 101, 110, 95, 105, 109, 112, 111, 114, 116, 108, 105, 98, 6, 228, 15, 95, 95, 102, 105, 114, 115, 116, 108, 105, 110, 101, 110, 111, 95, 95, 4, 218, 0, 562, 6, 229, 7, 95, 95, 100, 111, 99, 95, 95, 9, 47, 95, 102, 114, 111, 122, 101, 110, 95, 105, 109, 112, 111, 114, 116, 108, 105, 98, 46, 77, 111, 100, 117, 108, 101, 83, 112, 101, 99, 46, 95, 95, 100, 111, 99, 95, 95, 58, 115, 116, 114, 35, 111, 112, 97, 113, 117, 101, 6, 230, 8, 95, 95, 105, 110, 105, 116, 95, 95, 9, 44, 95, 102, 114, 111, 122, 101, 110, 95, 105, 109, 112, 111, 114, 116, 108, 105, 98, 46, 77, 111, 100, 117, 108, 101, 83, 112, 101, 99, 46, 95, 95, 105, 110, 105, 116, 95, 95, 35, 111, 112, 97, 113, 117, 101, 6, 231, 8, 95, 95, 114, 101, 112, 114, 95, 95, 9, 44, 95, 102, 114, 111, 122, 101, 110, 95, 105, 109, 112, 111, 114, 116, 108, 105, 98, 46, 77, 111, 100, 117, 108, 101, 83, 112, 101, 99, 46, 95, 95, 114, 101, 112, 114, 95, 95, 35, 111, 112, 97, 113, 117, 101, 6, 232, 6, 95, 95, 101, 113, 95, 95, 9, 42, 95, 102, 114, 111, 122, 101, 110, 95, 105, 109, 112, 111, 114, 116, 108, 105, 98, 46, 77, 111, 100, 117, 108, 101, 83, 112, 101, 99, 46, 95, 95, 101, 113, 95, 95, 35, 111, 112, 97, 113, 117, 101, 6, 233, 6, 99, 97, 99, 104, 101, 100, 9, 42, 95, 102, 114, 111, 122, 101, 110, 95, 105, 109, 112, 111, 114, 116, 108, 105, 98, 46, 77, 111, 100, 117, 108, 101, 83, 112, 101, 99, 46, 99, 97, 99, 104, 101, 100, 35, 111, 112, 97, 113, 117, 101, 6, 234, 6, 112, 97, 114, 101, 110, 116, 9, 42, 95, 102, 114, 111, 122, 101, 110, 95, 105, 109, 112, 111, 114, 116, 108, 105, 98, 46, 77, 111, 100, 117, 108, 101, 83, 112, 101, 99, 46, 112, 97, 114, 101, 110, 116, 35, 111, 112, 97, 113, 117, 101, 6, 235, 12, 104, 97, 115, 95, 108, 111, 99, 97, 116, 105, 111, 110, 9, 48, 95, 102, 114, 111, 122, 101, 110, 95, 105, 109, 112, 111, 114, 116, 108, 105, 98, 46, 77, 111, 100, 117, 108, 101, 83, 112, 101, 99, 46, 104, 97, 115, 95, 108, 111, 99, 97, 116, 105, 111, 110, 35, 111, 112, 97, 113, 117, 101, 6, 236, 21, 95, 95, 115, 116, 97, 116, 105, 99, 95, 97, 116, 116, 114, 105, 98, 117, 116, 101, 115, 95, 95, 4, 0, 0, 23, 6, 238, 8, 95, 95, 100, 105, 99, 116, 95, 95, 4, 0, 0, 24, 6, 240, 11, 95, 95, 119, 101, 97, 107, 114, 101, 102, 95, 95, 4, 0, 0, 25, 6, 241, 8, 95, 95, 104, 97, 115, 104, 95, 95, 0]⟩ : PySem.Str)) 0, .bool true, .bool true, .str (hs "") 242] 1, #[]⟩
noncomputable def ho19 (P : Params) : Obj := ⟨.type "list", none, .seq #[] 0, #[]⟩
noncomputable def ho20 (P : Params) : Obj := ⟨.type "dict", none, .dict #[hk P "name" 208 (.str (hs "_sre") 207), hk P "loader" 209 (.ref 14), hk P "origin" 210 (.str (hs "built-in") 184), hk P "loader_state" 211 (.none), hk P "submodule_search_locations" 212 (.none), hk P "_uninitialized_submodules" 213 (.ref 19), hk P "_set_fileattr" 214 (.bool false), hk P "_cached" 215 (.none), hk P "_initializing" 243 (.bool false)] 9, #[]⟩
noncomputable def ho21 (P : Params) : Obj := ⟨.type "dict", none, .dict #[hk P "__module__" 227 (.str (hs "_frozen_importlib") 217), hk P "__firstlineno__" 228 (.int (562) 218), hk P "__doc__" 229 (.builtin "_frozen_importlib.ModuleSpec.__doc__:str#opaque"), hk P "__init__" 230 (.builtin "_frozen_importlib.ModuleSpec.__init__#opaque"), hk P "__repr__" 231 (.builtin "_frozen_importlib.ModuleSpec.__repr__#opaque"), hk P "__eq__" 232 (.builtin "_frozen_importlib.ModuleSpec.__eq__#opaque"), hk P "cached" 233 (.builtin "_frozen_importlib.ModuleSpec.cached#opaque"), hk P "parent" 234 (.builtin "_frozen_importlib.ModuleSpec.parent#opaque"), hk P "has_location" 235 (.builtin "_frozen_importlib.ModuleSpec.has_location#opaque"), hk P "__static_attributes__" 236 (.ref 23), hk P "__dict__" 238 (.ref 24), hk P "__weakref__" 240 (.ref 25), hk P "__hash__" 241 (.none)] 13, #[]⟩
noncomputable def ho22 (P : Params) : Obj := ⟨.type "type", none, .cls ⟨hs "ModuleSpec", [.type "object"], [.ref 22, .type "object"], 21, hs "ModuleSpec", true, [], [], false, none, false⟩, #[]⟩
noncomputable def ho23 (P : Params) : Obj := ⟨.type "tuple", none, .seq #[.str (hs "_cached") 219, .str (hs "_set_fileattr") 220, .str (hs "_uninitialized_submodules") 221, .str (hs "loader") 222, .str (hs "loader_state") 223, .str (hs "name") 224, .str (hs "origin") 225, .str (hs "submodule_search_locations") 226] 0, #[]⟩
noncomputable def ho24 (P : Params) : Obj := ⟨.type "getset_descriptor", none, .fields #[.str (hs "__dict__") 237, .ref 22, .builtin "function.__dict__", .builtin "function.__dict__#set"], #[]⟩
noncomputable def ho25 (P : Params) : Obj := ⟨.type "getset_descriptor", none, .fields #[.str (hs "__weakref__") 239, .ref 22, .builtin "ExceptionGroup.__weakref__", .none], #[]⟩
noncomputable def ho26 (P : Params) : Obj := ⟨.ref 22, (some 20), .plain, #[]⟩
noncomputable def ho27 (P : Params) : Obj := ⟨.none, none, .seq #[.int (11) 0, .str ((⟨#[6, 247, 8, 95, 95, 110, 97, 109, 101, 95, 95, 6, 246, 4, 95, 115, 114, 101, 6, 248, 7, 95, 95, 100, 111, 99, 95, 95, 0, 6, 250, 11, 95, 95, 112, 97, 99, 107, 97, 103, 101, 95, 95, 6, 249, 0, 6, 251, 10, 95, 95, 108, 111, 97, 100, 101, 114, 95, 95, 4, 0, 0, 14, 6, 252, 8, 95, 95, 115, 112, 101, 99, 95, 95, 4, 0, 0, 26, 6, 253, 7, 99, 111, 109, 112, 105, 108, 101, 9, 12, 95, 115, 114, 101, 46, 99, 111, 109, 112, 105, 108, 101, 6, 254, 8, 116, 101, 109, 112, 108, 97, 116, 101, 9, 13, 95, 115, 114, 101, 46, 116, 101, 109, 112, 108, 97, 116, 101, 6, 255, 11, 103, 101, 116, 99, 111, 100, 101, 115, 105, 122, 101, 9, 16, 95, 115, 114, 101, 46, 103, 101, 116, 99, 111, 100, 101, 115, 105, 122, 101, 6, 256, 13, 97, 115, 99, 105, 105, 95, 105, 115, 99, 97, 115, 101, 100, 9, 18, 95, 115, 114, 101, 46, 97, 115, 99, 105, 105, 95, 105, 115, 99, 97, 115, 101, 100, 6, 257, 15, 117, 110, 105, 99, 111, 100, 101, 95, 105, 115, 99, 97, 115, 101, 100, 9, 20, 95, 115, 114, 101, 46, 117, 110, 105, 99, 111, 100, 101, 95, 105, 115, 99, 97, 115, 101, 100, 6, 258, 13, 97, 115, 99, 105, 105, 95, 116, 111, 108, 111, 119, 101, 114, 9, 18, 95, 115, 114, 101, 46, 97, 115, 99, 105, 105, 95, 116, 111, 108, 111, 119, 101, 114, 6, 259, 15, 117, 110, 105, 99, 111, 100, 101, 95, 116, 111, 108, 111, 119, 101, 114, 9, 20, 95, 115, 114, 101, 46, 117, 110, 105, 99, 111, 100, 101, 95, 116, 111, 108, 111, 119, 101, 114, 6, 261, 5, 77, 65, 71, 73, 67, 4, 260, 0, 20230612, 6, 263, 8, 67, 79, 68, 69, 83, 73, 90, 69, 4, 262, 0, 4, 6, 265, 9, 77, 65, 88, 82, 69, 80, 69, 65, 84, 4, 264, 0, 4294967295, 6, 267, 9, 77, 65, 88, 71, 82, 79, 85, 80, 83, 4, 266, 0, 1073741823, 6, 269, 9, 99, 111, 112, 121, 114, 105, 103, 104, 116, 6, 268, 53, 32, 83, 82, 69, 32, 50, 46, 50, 46, 50, 32, 67, 111, 112, 121, 114, 105, 103, 104, 116, 32, 40, 99, 41, 32, 49, 57, 57, 55, 45, 50, 48, 48, 50, 32, 98, 121, 32, 83, 101, 99, 114, 101, 116, 32, 76, 97, 98, 115, 32, 65, 66, 32]⟩ : PySem.Str)) 0, .bool true, .bool false, .str (hs "_sre") 271] 0, #[]⟩
noncomputable def hp0 (P : Params) : Heap := ⟨Array.mk [boot_o_0 P, ho1 P, ho2 P, ho3 P, boot_o_4 P, boot_o_5 P, boot_o_6 P, boot_o_7 P, boot_o_8 P, boot_o_9 P, boot_o_10 P, ho11 P, ho12 P, ho13 P, ho14 P, ho15 P, ho16 P, ho17 P, ho18 P, ho19 P, ho20 P, ho21 P, ho22 P, ho23 P, ho24 P, ho25 P, ho26 P, ho27 P], { }⟩
noncomputable def ho28 (P : Params) : Obj := ⟨.type "tuple", none, .seq #[] 0, #[]⟩
noncomputable def ho29 (P : Params) : Obj := ⟨.none, none, .fields #[], #[]⟩
noncomputable def ho30 (P : Params) : Obj := ⟨.type "code", none, .fields #[.str (hs "<module>") 277, .str (hs "<module>") 278, .str (hs "/claim/cut.py") 279, .int (1) 0, .int (0) 0, .int (0) 0, .int (0) 0, .int (0) 0, .ref 28, .bool false, .int (276) 0, .ref 29, .none, .none, .none, .none, .int (280) 0, .int (1) 0, .str (hs "/claim/cut.py") 281], #[]⟩
noncomputable def ho31 (P : Params) : Obj := ⟨.type "frame", none, .plain, #[some (.ref 30), some (.ref 3), some (.ref 3), none, some (.str (hs "__main__") 164), none, some (.ref 0)]⟩
noncomputable def hp_pre (P : Params) : Heap := ⟨Array.mk [boot_o_0 P, ho1 P, ho2 P, ho3 P, boot_o_4 P, boot_o_5 P, boot_o_6 P, boot_o_7 P, boot_o_8 P, boot_o_9 P, boot_o_10 P, ho11 P, ho12 P, ho13 P, ho14 P, ho15 P, ho16 P, ho17 P, ho18 P, ho19 P, ho20 P, ho21 P, ho22 P, ho23 P, ho24 P, ho25 P, ho26 P, ho27 P, ho28 P, ho29 P, ho30 P, ho31 P], { }⟩
noncomputable def ho3x (P : Params) : Obj := ⟨.type "dict", none, .dict #[hk P "__name__" 165 (.str (hs "re") 327), hk P "__doc__" 166 (.none), hk P "__package__" 167 (.none), hk P "__loader__" 168 (.builtin "__main__.__loader__#opaque"), hk P "__spec__" 169 (.none), hk P "__annotations__" 170 (.ref 6), hk P "__builtins__" 171 (.ref 4), hk P "__file__" 173 (.str (hs "/claim/cut.py") 172), hk P "__cached__" 174 (.none), hk P "_sre" 275 (.ref 12), hk P "_wall" 288 (.ref 38), hk P "_twin_re_1" 326 (.ref 43)] 12, #[]⟩
noncomputable def ho29x (P : Params) : Obj := ⟨.none, none, .fields #[.int (2) 0, .int (0) 0, .ref 37], #[]⟩
noncomputable def ho32 (P : Params) : Obj := ⟨.type "tuple", none, .seq #[] 0, #[]⟩
noncomputable def ho33 (P : Params) : Obj := ⟨.none, none, .fields #[], #[]⟩
noncomputable def ho34 (P : Params) : Obj := ⟨.type "tuple", none, .seq #[.str (hs "k") 285] 0, #[]⟩
noncomputable def ho35 (P : Params) : Obj := ⟨.type "tuple", none, .seq #[] 0, #[]⟩
noncomputable def ho36 (P : Params) : Obj := ⟨.none, none, .func ⟨hs "_wall", hs "_wall", hPs (hAt hW [1]), .stmts (hBd (hAt hW [1])), hSc (hAt hW [1]), 0, [], .none, .none, .none, .none, none, .none, .none, 0⟩, #[]⟩
noncomputable def ho37 (P : Params) : Obj := ⟨.type "code", none, .fields #[.str (hs "_wall") 282, .str (hs "_wall") 283, .str (hs "/claim/cut.py") 284, .int (2) 0, .int (1) 0, .int (0) 0, .int (0) 0, .int (3) 0, .ref 32, .bool true, .int (276) 0, .ref 33, .none, .ref 34, .ref 35, .ref 36, .int (286) 0, .int (2) 0, .str (hs "/claim/cut.py") 287], #[]⟩
noncomputable def ho38 (P : Params) : Obj := ⟨.type "function", none, .func ⟨hs "_wall", hs "_wall", hPs (hAt hW [1]), .stmts (hBd (hAt hW [1])), hSc (hAt hW [1]), 3, [], .none, .none, .none, .str (hs "__main__") 164, none, .ref 37, .none, 0⟩, #[]⟩
noncomputable def ho39 (P : Params) : Obj := ⟨.type "list", none, .seq #[.int (14) 292, .int (14) 293, .int (4) 294, .int (1) 295, .int (1) 296, .int (9) 297, .int (0) 298, .int (64) 299, .int (0) 300, .int (1342177280) 301, .int (0) 302, .int (0) 303, .int (0) 304, .int (0) 305, .int (0) 306, .int (17) 307, .int (0) 308, .int (13) 309, .int (11) 310, .int (9) 311, .int (0) 312, .int (64) 313, .int (0) 314, .int (1342177280) 315, .int (0) 316, .int (0) 317, .int (0) 318, .int (0) 319, .int (0) 320, .int (17) 321, .int (1) 322, .int (1) 323] 0, #[]⟩
noncomputable def ho40 (P : Params) : Obj := ⟨.type "dict", none, .dict #[] 0, #[]⟩
noncomputable def ho41 (P : Params) : Obj := ⟨.type "tuple", none, .seq #[.none, .none] 0, #[]⟩
noncomputable def ho42 (P : Params) : Obj := ⟨.type "tuple", none, .seq #[.int (14) 0, .int (14) 0, .int (4) 0, .int (1) 0, .int (1) 0, .int (9) 0, .int (0) 0, .int (64) 0, .int (0) 0, .int (1342177280) 0, .int (0) 0, .int (0) 0, .int (0) 0, .int (0) 0, .int (0) 0, .int (17) 0, .int (0) 0, .int (13) 0, .int (11) 0, .int (9) 0, .int (0) 0, .int (64) 0, .int (0) 0, .int (1342177280) 0, .int (0) 0, .int (0) 0, .int (0) 0, .int (0) 0, .int (0) 0, .int (17) 0, .int (1) 0, .int (1) 0] 0, #[]⟩
noncomputable def ho43 (P : Params) : Obj := ⟨.type "re.Pattern", none, .fields #[.str (hs "([&~|])") 290, .int (32) 325, .int (1) 0, .none, .none, .ref 42, .int (0) 0], #[]⟩
noncomputable def hp3 (P : Params) : Heap := ⟨Array.mk [boot_o_0 P, ho1 P, ho2 P, ho3x P, boot_o_4 P, boot_o_5 P, boot_o_6 P, boot_o_7 P, boot_o_8 P, boot_o_9 P, boot_o_10 P, ho11 P, ho12 P, ho13 P, ho14 P, ho15 P, ho16 P, ho17 P, ho18 P, ho19 P, ho20 P, ho21 P, ho22 P, ho23 P, ho24 P, ho25 P, ho26 P, ho27 P, ho28 P, ho29x P, ho30 P, ho31 P, ho32 P, ho33 P, ho34 P, ho35 P, ho36 P, ho37 P, ho38 P, ho39 P, ho40 P, ho41 P, ho42 P, ho43 P], { }⟩
noncomputable def ho3xx (P : Params) : Obj := ⟨.type "dict", none, .dict #[hk P "__name__" 165 (.str (hs "re") 327), hk P "__doc__" 166 (.none), hk P "__package__" 167 (.none), hk P "__loader__" 168 (.builtin "__main__.__loader__#opaque"), hk P "__spec__" 169 (.none), hk P "__annotations__" 170 (.ref 6), hk P "__builtins__" 171 (.ref 4), hk P "__file__" 173 (.str (hs "/claim/cut.py") 172), hk P "__cached__" 174 (.none), hk P "_sre" 275 (.ref 12), hk P "_wall" 288 (.ref 38), hk P "_twin_re_1" 326 (.ref 43), hk P "_special_chars_map" 474 (.ref 45)] 13, #[]⟩
noncomputable def ho44 (P : Params) : Obj := ⟨.type "bytes_iterator", none, .fields #[.none, .int (24) 0], #[]⟩
noncomputable def ho45 (P : Params) : Obj := ⟨.type "dict", none, .dict #[⟨40, .int (40) 330, .str (hs "\\(") 334⟩, ⟨41, .int (41) 336, .str (hs "\\)") 340⟩, ⟨91, .int (91) 342, .str (hs "\\[") 346⟩, ⟨93, .int (93) 348, .str (hs "\\]") 352⟩, ⟨123, .int (123) 354, .str (hs "\\{") 358⟩, ⟨125, .int (125) 360, .str (hs "\\}") 364⟩, ⟨63, .int (63) 366, .str (hs "\\?") 370⟩, ⟨42, .int (42) 372, .str (hs "\\*") 376⟩, ⟨43, .int (43) 378, .str (hs "\\+") 382⟩, ⟨45, .int (45) 384, .str (hs "\\-") 388⟩, ⟨124, .int (124) 390, .str (hs "\\|") 394⟩, ⟨94, .int (94) 396, .str (hs "\\^") 400⟩, ⟨36, .int (36) 402, .str (hs "\\$") 406⟩, ⟨92, .int (92) 408, .str (hs "\\\\") 412⟩, ⟨46, .int (46) 414, .str (hs "\\.") 418⟩, ⟨38, .int (38) 420, .str (hs "\\&") 424⟩, ⟨126, .int (126) 426, .str (hs "\\~") 430⟩, ⟨35, .int (35) 432, .str (hs "\\#") 436⟩, ⟨32, .int (32) 438, .str (hs "\\ ") 442⟩, ⟨9, .int (9) 444, .str ((⟨#[92, 9]⟩ : PySem.Str)) 448⟩, ⟨10, .int (10) 450, .str ((⟨#[92, 10]⟩ : PySem.Str)) 454⟩, ⟨13, .int (13) 456, .str ((⟨#[92, 13]⟩ : PySem.Str)) 460⟩, ⟨11, .int (11) 462, .str ((⟨#[92, 11]⟩ : PySem.Str)) 466⟩, ⟨12, .int (12) 468, .str ((⟨#[92, 12]⟩ : PySem.Str)) 472⟩] 24, #[]⟩
noncomputable def ho46 (P : Params) : Obj := ⟨.type "dict", none, .dict #[] 2, #[]⟩
noncomputable def ho47 (P : Params) : Obj := ⟨.type "tuple", none, .seq #[] 0, #[]⟩
noncomputable def ho48 (P : Params) : Obj := ⟨.type "StopIteration", none, .fields #[.ref 47, .none, .none, .none, .bool false, .none], #[]⟩
noncomputable def hp4 (P : Params) : Heap := ⟨Array.mk [boot_o_0 P, ho1 P, ho2 P, ho3xx P, boot_o_4 P, boot_o_5 P, boot_o_6 P, boot_o_7 P, boot_o_8 P, boot_o_9 P, boot_o_10 P, ho11 P, ho12 P, ho13 P, ho14 P, ho15 P, ho16 P, ho17 P, ho18 P, ho19 P, ho20 P, ho21 P, ho22 P, ho23 P, ho24 P, ho25 P, ho26 P, ho27 P, ho28 P, ho29x P, ho30 P, ho31 P, ho32 P, ho33 P, ho34 P, ho35 P, ho36 P, ho37 P, ho38 P, ho39 P, ho40 P, ho41 P, ho42 P, ho43 P, ho44 P, ho45 P, ho46 P, ho47 P, ho48 P], { }⟩
noncomputable def ho3xxx (P : Params) : Obj := ⟨.type "dict", none, .dict #[hk P "__name__" 165 (.str (hs "law_dn0069_07") 713), hk P "__doc__" 166 (.none), hk P "__package__" 167 (.none), hk P "__loader__" 168 (.builtin "__main__.__loader__#opaque"), hk P "__spec__" 169 (.none), hk P "__annotations__" 170 (.ref 6), hk P "__builtins__" 171 (.ref 4), hk P "__file__" 173 (.str (hs "/claim/cut.py") 172), hk P "__cached__" 174 (.none), hk P "_sre" 275 (.ref 12), hk P "_wall" 288 (.ref 38), hk P "_twin_re_1" 326 (.ref 43), hk P "_special_chars_map" 474 (.ref 45), hk P "escape" 481 (.ref 55), hk P "_translate" 502 (.ref 62), hk P "_plain_name" 513 (.ref 69), hk P "ABCMeta" 539 (.ref 86), hk P "_ABCLike" 582 (.ref 119), hk P "_abc_plain_meta" 589 (.ref 128), hk P "fspath" 601 (.ref 135), hk P "commonprefix" 614 (.ref 142), hk P "_check_arg_types" 625 (.ref 149), hk P "_get_sep" 634 (.ref 156), hk P "join" 645 (.ref 163), hk P "splitroot" 654 (.ref 170), hk P "basename" 663 (.ref 177), hk P "dirname" 673 (.ref 184), hk P "normpath" 688 (.ref 191), hk P "abspath" 695 (.ref 198), hk P "relpath" 712 (.ref 206), hk P "_law_runs" 727 (.ref 213), hk P "_law_laid" 737 (.ref 220), hk P "law" 743 (.ref 225)] 33, #[]⟩
noncomputable def ho29xx (P : Params) : Obj := ⟨.none, none, .fields #[.int (2) 0, .int (0) 0, .ref 37, .int (8) 0, .int (0) 0, .ref 54, .int (15) 0, .int (0) 0, .ref 61, .int (78) 0, .int (0) 0, .ref 68, .int (84) 0, .int (0) 0, .ref 75, .int (89) 0, .int (0) 0, .ref 94, .int (104) 0, .int (0) 0, .ref 127, .int (108) 0, .int (0) 0, .ref 134, .int (125) 0, .int (0) 0, .ref 141, .int (136) 0, .int (0) 0, .ref 148, .int (148) 0, .int (0) 0, .ref 155, .int (153) 0, .int (0) 0, .ref 162, .int (170) 0, .int (0) 0, .ref 169, .int (184) 0, .int (0) 0, .ref 176, .int (189) 0, .int (0) 0, .ref 183, .int (197) 0, .int (0) 0, .ref 190, .int (222) 0, .int (0) 0, .ref 197, .int (230) 0, .int (0) 0, .ref 205, .int (260) 0, .int (0) 0, .ref 212, .int (276) 0, .int (0) 0, .ref 219, .int (281) 0, .int (0) 0, .ref 224], #[]⟩
noncomputable def ho49 (P : Params) : Obj := ⟨.type "tuple", none, .seq #[] 0, #[]⟩
noncomputable def ho50 (P : Params) : Obj := ⟨.none, none, .fields #[], #[]⟩
noncomputable def ho51 (P : Params) : Obj := ⟨.type "tuple", none, .seq #[.str (hs "pattern") 478] 0, #[]⟩
noncomputable def ho52 (P : Params) : Obj := ⟨.type "tuple", none, .seq #[] 0, #[]⟩
noncomputable def ho53 (P : Params) : Obj := ⟨.none, none, .func ⟨hs "escape", hs "escape", hPs (hAt hW [5]), .stmts (hBd (hAt hW [5])), hSc (hAt hW [5]), 0, [], .none, .none, .none, .none, none, .none, .none, 0⟩, #[]⟩
noncomputable def ho54 (P : Params) : Obj := ⟨.type "code", none, .fields #[.str (hs "escape") 475, .str (hs "escape") 476, .str (hs "/claim/cut.py") 477, .int (8) 0, .int (1) 0, .int (0) 0, .int (0) 0, .int (3) 0, .ref 49, .bool true, .int (276) 0, .ref 50, .none, .ref 51, .ref 52, .ref 53, .int (479) 0, .int (8) 0, .str (hs "/claim/cut.py") 480], #[]⟩
noncomputable def ho55 (P : Params) : Obj := ⟨.type "function", none, .func ⟨hs "escape", hs "escape", hPs (hAt hW [5]), .stmts (hBd (hAt hW [5])), hSc (hAt hW [5]), 3, [], .none, .none, .none, .str (hs "re") 327, none, .ref 54, .none, 0⟩, #[]⟩
noncomputable def ho56 (P : Params) : Obj := ⟨.type "tuple", none, .seq #[] 0, #[]⟩
noncomputable def ho57 (P : Params) : Obj := ⟨.none, none, .fields #[], #[]⟩
noncomputable def ho58 (P : Params) : Obj := ⟨.type "tuple", none, .seq #[.str (hs "pat") 487, .str (hs "STAR") 488, .str (hs "QUESTION_MARK") 489, .str (hs "res") 490, .str (hs "add") 491, .str (hs "i") 492, .str (hs "n") 493, .str (hs "c") 494, .str (hs "j") 495, .str (hs "stuff") 496, .str (hs "chunks") 497, .str (hs "k") 498, .str (hs "chunk") 499] 0, #[]⟩
noncomputable def ho59 (P : Params) : Obj := ⟨.type "tuple", none, .seq #[] 0, #[]⟩
noncomputable def ho60 (P : Params) : Obj := ⟨.none, none, .func ⟨hs "_translate", hs "_translate", hPs (hAt hW [7]), .stmts (hBd (hAt hW [7])), hSc (hAt hW [7]), 0, [], .none, .none, .none, .none, none, .none, .none, 0⟩, #[]⟩
noncomputable def ho61 (P : Params) : Obj := ⟨.type "code", none, .fields #[.str (hs "_translate") 484, .str (hs "_translate") 485, .str (hs "/claim/cut.py") 486, .int (15) 0, .int (3) 0, .int (0) 0, .int (0) 0, .int (3) 0, .ref 56, .bool true, .int (276) 0, .ref 57, .none, .ref 58, .ref 59, .ref 60, .int (500) 0, .int (15) 0, .str (hs "/claim/cut.py") 501], #[]⟩
noncomputable def ho62 (P : Params) : Obj := ⟨.type "function", none, .func ⟨hs "_translate", hs "_translate", hPs (hAt hW [7]), .stmts (hBd (hAt hW [7])), hSc (hAt hW [7]), 3, [], .none, .none, .none, .str (hs "cpy313.fnmatch") 482, none, .ref 61, .none, 0⟩, #[]⟩
noncomputable def ho63 (P : Params) : Obj := ⟨.type "tuple", none, .seq #[] 0, #[]⟩
noncomputable def ho64 (P : Params) : Obj := ⟨.none, none, .fields #[], #[]⟩
noncomputable def ho65 (P : Params) : Obj := ⟨.type "tuple", none, .seq #[.str (hs "x") 508, .str (hs "what") 509, .str (hs "kind") 510] 0, #[]⟩
noncomputable def ho66 (P : Params) : Obj := ⟨.type "tuple", none, .seq #[] 0, #[]⟩
noncomputable def ho67 (P : Params) : Obj := ⟨.none, none, .func ⟨hs "_plain_name", hs "_plain_name", hPs (hAt hW [9]), .stmts (hBd (hAt hW [9])), hSc (hAt hW [9]), 0, [], .none, .none, .none, .none, none, .none, .none, 0⟩, #[]⟩
noncomputable def ho68 (P : Params) : Obj := ⟨.type "code", none, .fields #[.str (hs "_plain_name") 505, .str (hs "_plain_name") 506, .str (hs "/claim/cut.py") 507, .int (78) 0, .int (2) 0, .int (0) 0, .int (0) 0, .int (3) 0, .ref 63, .bool true, .int (276) 0, .ref 64, .none, .ref 65, .ref 66, .ref 67, .int (511) 0, .int (78) 0, .str (hs "/claim/cut.py") 512], #[]⟩
noncomputable def ho69 (P : Params) : Obj := ⟨.type "function", none, .func ⟨hs "_plain_name", hs "_plain_name", hPs (hAt hW [9]), .stmts (hBd (hAt hW [9])), hSc (hAt hW [9]), 3, [], .none, .none, .none, .str (hs "os") 503, none, .ref 68, .none, 0⟩, #[]⟩
noncomputable def ho70 (P : Params) : Obj := ⟨.type "tuple", none, .seq #[.type "type"] 0, #[]⟩
noncomputable def ho71 (P : Params) : Obj := ⟨.type "builtin_function_or_method", none, .fields #[.builtin "type.__prepare__", .type "type"], #[]⟩
noncomputable def ho72 (P : Params) : Obj := ⟨.type "dict", none, .dict #[hk P "__module__" 523 (.str (hs "abc") 514), hk P "__qualname__" 525 (.str (hs "ABCMeta") 524), hk P "__firstlineno__" 527 (.int (84) 526), hk P "register" 535 (.ref 83), hk P "__static_attributes__" 536 (.ref 84)] 5, #[]⟩
noncomputable def ho73 (P : Params) : Obj := ⟨.type "tuple", none, .seq #[] 0, #[]⟩
noncomputable def ho74 (P : Params) : Obj := ⟨.none, none, .fields #[.int (86) 0, .int (4) 0, .ref 82], #[]⟩
noncomputable def ho75 (P : Params) : Obj := ⟨.type "code", none, .fields #[.str (hs "ABCMeta") 518, .str (hs "ABCMeta") 519, .str (hs "/claim/cut.py") 520, .int (84) 0, .int (0) 0, .int (0) 0, .int (0) 0, .int (0) 0, .ref 73, .bool false, .int (276) 0, .ref 74, .none, .none, .none, .none, .int (521) 0, .int (84) 0, .str (hs "/claim/cut.py") 522], #[]⟩
noncomputable def ho76 (P : Params) : Obj := ⟨.type "frame", none, .plain, #[some (.ref 75), some (.ref 3), some (.ref 72), none, some (.str (hs "abc") 514), none, some (.ref 0)]⟩
noncomputable def ho77 (P : Params) : Obj := ⟨.type "tuple", none, .seq #[] 0, #[]⟩
noncomputable def ho78 (P : Params) : Obj := ⟨.none, none, .fields #[], #[]⟩
noncomputable def ho79 (P : Params) : Obj := ⟨.type "tuple", none, .seq #[.str (hs "cls") 531, .str (hs "subclass") 532] 0, #[]⟩
noncomputable def ho80 (P : Params) : Obj := ⟨.type "tuple", none, .seq #[] 0, #[]⟩
noncomputable def ho81 (P : Params) : Obj := ⟨.none, none, .func ⟨hs "register", hs "ABCMeta.register", hPs (hAt hW [11, 0]), .stmts (hBd (hAt hW [11, 0])), hSc (hAt hW [11, 0]), 0, [], .none, .none, .none, .none, none, .none, .none, 0⟩, #[]⟩
noncomputable def ho82 (P : Params) : Obj := ⟨.type "code", none, .fields #[.str (hs "register") 528, .str (hs "ABCMeta.register") 529, .str (hs "/claim/cut.py") 530, .int (86) 0, .int (2) 0, .int (0) 0, .int (0) 0, .int (3) 0, .ref 77, .bool true, .int (276) 0, .ref 78, .none, .ref 79, .ref 80, .ref 81, .int (533) 0, .int (86) 0, .str (hs "/claim/cut.py") 534], #[]⟩
noncomputable def ho83 (P : Params) : Obj := ⟨.type "function", none, .func ⟨hs "register", hs "ABCMeta.register", hPs (hAt hW [11, 0]), .stmts (hBd (hAt hW [11, 0])), hSc (hAt hW [11, 0]), 3, [], .none, .none, .none, .str (hs "abc") 514, none, .ref 82, .none, 0⟩, #[]⟩
noncomputable def ho84 (P : Params) : Obj := ⟨.type "tuple", none, .seq #[] 0, #[]⟩
noncomputable def ho85 (P : Params) : Obj := ⟨.type "dict", none, .dict #[hk P "__module__" 523 (.str (hs "abc") 514), hk P "__firstlineno__" 527 (.int (84) 526), hk P "register" 535 (.ref 83), hk P "__static_attributes__" 536 (.ref 84), hk P "__doc__" 537 (.none)] 2, #[]⟩
noncomputable def ho86 (P : Params) : Obj := ⟨.type "type", none, .cls ⟨hs "ABCMeta", [.type "type"], [.ref 86, .type "type", .type "object"], 85, hs "ABCMeta", true, [], [.ref 119], false, none, false⟩, #[some (.ref 70), none, some (.str (hs "ABCMeta") 516), some (.str (hs "ABCMeta") 524), some (.builtin "type.__new__"), some (.bool true)]⟩
noncomputable def ho87 (P : Params) : Obj := ⟨.type "super", none, .fields #[.ref 86, .ref 86, .ref 86], #[]⟩
noncomputable def ho88 (P : Params) : Obj := ⟨.type "builtin_function_or_method", none, .fields #[.builtin "object.__init_subclass__", .ref 86], #[]⟩
noncomputable def ho89 (P : Params) : Obj := ⟨.type "tuple", none, .seq #[.ref 86] 0, #[]⟩
noncomputable def ho90 (P : Params) : Obj := ⟨.type "builtin_function_or_method", none, .fields #[.builtin "type.__prepare__", .type "type"], #[]⟩
noncomputable def ho91 (P : Params) : Obj := ⟨.type "dict", none, .dict #[hk P "__module__" 549 (.str (hs "collections.abc") 540), hk P "__qualname__" 551 (.str (hs "_ABCLike") 550), hk P "__firstlineno__" 553 (.int (89) 552), hk P "__instancecheck__" 562 (.ref 102), hk P "__subclasscheck__" 570 (.ref 109), hk P "register" 578 (.ref 116), hk P "__static_attributes__" 579 (.ref 117)] 7, #[]⟩
noncomputable def ho92 (P : Params) : Obj := ⟨.type "tuple", none, .seq #[] 0, #[]⟩
noncomputable def ho93 (P : Params) : Obj := ⟨.none, none, .fields #[.int (91) 0, .int (4) 0, .ref 101, .int (97) 0, .int (4) 0, .ref 108, .int (102) 0, .int (4) 0, .ref 115], #[]⟩
noncomputable def ho94 (P : Params) : Obj := ⟨.type "code", none, .fields #[.str (hs "_ABCLike") 544, .str (hs "_ABCLike") 545, .str (hs "/claim/cut.py") 546, .int (89) 0, .int (0) 0, .int (0) 0, .int (0) 0, .int (0) 0, .ref 92, .bool false, .int (276) 0, .ref 93, .none, .none, .none, .none, .int (547) 0, .int (89) 0, .str (hs "/claim/cut.py") 548], #[]⟩
noncomputable def ho95 (P : Params) : Obj := ⟨.type "frame", none, .plain, #[some (.ref 94), some (.ref 3), some (.ref 91), none, some (.str (hs "collections.abc") 540), none, some (.ref 0)]⟩
noncomputable def ho96 (P : Params) : Obj := ⟨.type "tuple", none, .seq #[] 0, #[]⟩
noncomputable def ho97 (P : Params) : Obj := ⟨.none, none, .fields #[], #[]⟩
noncomputable def ho98 (P : Params) : Obj := ⟨.type "tuple", none, .seq #[.str (hs "cls") 557, .str (⟨#[105, 110, 115, 116, 97, 110, 99, 101]⟩) 558, .str (hs "C") 559] 0, #[]⟩
noncomputable def ho99 (P : Params) : Obj := ⟨.type "tuple", none, .seq #[] 0, #[]⟩
noncomputable def ho100 (P : Params) : Obj := ⟨.none, none, .func ⟨hs "__instancecheck__", hs "_ABCLike.__instancecheck__", hPs (hAt hW [13, 0]), .stmts (hBd (hAt hW [13, 0])), hSc (hAt hW [13, 0]), 0, [], .none, .none, .none, .none, none, .none, .none, 0⟩, #[]⟩
noncomputable def ho101 (P : Params) : Obj := ⟨.type "code", none, .fields #[.str (hs "__instancecheck__") 554, .str (hs "_ABCLike.__instancecheck__") 555, .str (hs "/claim/cut.py") 556, .int (91) 0, .int (2) 0, .int (0) 0, .int (0) 0, .int (3) 0, .ref 96, .bool true, .int (276) 0, .ref 97, .none, .ref 98, .ref 99, .ref 100, .int (560) 0, .int (91) 0, .str (hs "/claim/cut.py") 561], #[]⟩
noncomputable def ho102 (P : Params) : Obj := ⟨.type "function", none, .func ⟨hs "__instancecheck__", hs "_ABCLike.__instancecheck__", hPs (hAt hW [13, 0]), .stmts (hBd (hAt hW [13, 0])), hSc (hAt hW [13, 0]), 3, [], .none, .none, .none, .str (hs "collections.abc") 540, none, .ref 101, .none, 0⟩, #[]⟩
noncomputable def ho103 (P : Params) : Obj := ⟨.type "tuple", none, .seq #[] 0, #[]⟩
noncomputable def ho104 (P : Params) : Obj := ⟨.none, none, .fields #[], #[]⟩
noncomputable def ho105 (P : Params) : Obj := ⟨.type "tuple", none, .seq #[.str (hs "cls") 566, .str (hs "C") 567] 0, #[]⟩
noncomputable def ho106 (P : Params) : Obj := ⟨.type "tuple", none, .seq #[] 0, #[]⟩
noncomputable def ho107 (P : Params) : Obj := ⟨.none, none, .func ⟨hs "__subclasscheck__", hs "_ABCLike.__subclasscheck__", hPs (hAt hW [13, 1]), .stmts (hBd (hAt hW [13, 1])), hSc (hAt hW [13, 1]), 0, [], .none, .none, .none, .none, none, .none, .none, 0⟩, #[]⟩
noncomputable def ho108 (P : Params) : Obj := ⟨.type "code", none, .fields #[.str (hs "__subclasscheck__") 563, .str (hs "_ABCLike.__subclasscheck__") 564, .str (hs "/claim/cut.py") 565, .int (97) 0, .int (2) 0, .int (0) 0, .int (0) 0, .int (3) 0, .ref 103, .bool true, .int (276) 0, .ref 104, .none, .ref 105, .ref 106, .ref 107, .int (568) 0, .int (97) 0, .str (hs "/claim/cut.py") 569], #[]⟩
noncomputable def ho109 (P : Params) : Obj := ⟨.type "function", none, .func ⟨hs "__subclasscheck__", hs "_ABCLike.__subclasscheck__", hPs (hAt hW [13, 1]), .stmts (hBd (hAt hW [13, 1])), hSc (hAt hW [13, 1]), 3, [], .none, .none, .none, .str (hs "collections.abc") 540, none, .ref 108, .none, 0⟩, #[]⟩
noncomputable def ho110 (P : Params) : Obj := ⟨.type "tuple", none, .seq #[] 0, #[]⟩
noncomputable def ho111 (P : Params) : Obj := ⟨.none, none, .fields #[], #[]⟩
noncomputable def ho112 (P : Params) : Obj := ⟨.type "tuple", none, .seq #[.str (hs "cls") 574, .str (hs "subclass") 575] 0, #[]⟩
noncomputable def ho113 (P : Params) : Obj := ⟨.type "tuple", none, .seq #[] 0, #[]⟩
noncomputable def ho114 (P : Params) : Obj := ⟨.none, none, .func ⟨hs "register", hs "_ABCLike.register", hPs (hAt hW [13, 2]), .stmts (hBd (hAt hW [13, 2])), hSc (hAt hW [13, 2]), 0, [], .none, .none, .none, .none, none, .none, .none, 0⟩, #[]⟩
noncomputable def ho115 (P : Params) : Obj := ⟨.type "code", none, .fields #[.str (hs "register") 571, .str (hs "_ABCLike.register") 572, .str (hs "/claim/cut.py") 573, .int (102) 0, .int (2) 0, .int (0) 0, .int (0) 0, .int (3) 0, .ref 110, .bool true, .int (276) 0, .ref 111, .none, .ref 112, .ref 113, .ref 114, .int (576) 0, .int (102) 0, .str (hs "/claim/cut.py") 577], #[]⟩
noncomputable def ho116 (P : Params) : Obj := ⟨.type "function", none, .func ⟨hs "register", hs "_ABCLike.register", hPs (hAt hW [13, 2]), .stmts (hBd (hAt hW [13, 2])), hSc (hAt hW [13, 2]), 3, [], .none, .none, .none, .str (hs "collections.abc") 540, none, .ref 115, .none, 0⟩, #[]⟩
noncomputable def ho117 (P : Params) : Obj := ⟨.type "tuple", none, .seq #[] 0, #[]⟩
noncomputable def ho118 (P : Params) : Obj := ⟨.type "dict", none, .dict #[hk P "__module__" 549 (.str (hs "collections.abc") 540), hk P "__firstlineno__" 553 (.int (89) 552), hk P "__instancecheck__" 562 (.ref 102), hk P "__subclasscheck__" 570 (.ref 109), hk P "register" 578 (.ref 116), hk P "__static_attributes__" 579 (.ref 117), hk P "__doc__" 580 (.none)] 2, #[]⟩
noncomputable def ho119 (P : Params) : Obj := ⟨.type "type", none, .cls ⟨hs "_ABCLike", [.ref 86], [.ref 119, .ref 86, .type "type", .type "object"], 118, hs "_ABCLike", true, [], [], false, none, false⟩, #[some (.ref 89), none, some (.str (hs "_ABCLike") 542), some (.str (hs "_ABCLike") 550), some (.builtin "type.__new__"), some (.bool true)]⟩
noncomputable def ho120 (P : Params) : Obj := ⟨.type "super", none, .fields #[.ref 119, .ref 119, .ref 119], #[]⟩
noncomputable def ho121 (P : Params) : Obj := ⟨.type "builtin_function_or_method", none, .fields #[.builtin "object.__init_subclass__", .ref 119], #[]⟩
noncomputable def ho122 (P : Params) : Obj := ⟨.type "tuple", none, .seq #[] 0, #[]⟩
noncomputable def ho123 (P : Params) : Obj := ⟨.none, none, .fields #[], #[]⟩
noncomputable def ho124 (P : Params) : Obj := ⟨.type "tuple", none, .seq #[.str (hs "C") 586] 0, #[]⟩
noncomputable def ho125 (P : Params) : Obj := ⟨.type "tuple", none, .seq #[] 0, #[]⟩
noncomputable def ho126 (P : Params) : Obj := ⟨.none, none, .func ⟨hs "_abc_plain_meta", hs "_abc_plain_meta", hPs (hAt hW [14]), .stmts (hBd (hAt hW [14])), hSc (hAt hW [14]), 0, [], .none, .none, .none, .none, none, .none, .none, 0⟩, #[]⟩
noncomputable def ho127 (P : Params) : Obj := ⟨.type "code", none, .fields #[.str (hs "_abc_plain_meta") 583, .str (hs "_abc_plain_meta") 584, .str (hs "/claim/cut.py") 585, .int (104) 0, .int (1) 0, .int (0) 0, .int (0) 0, .int (3) 0, .ref 122, .bool true, .int (276) 0, .ref 123, .none, .ref 124, .ref 125, .ref 126, .int (587) 0, .int (104) 0, .str (hs "/claim/cut.py") 588], #[]⟩
noncomputable def ho128 (P : Params) : Obj := ⟨.type "function", none, .func ⟨hs "_abc_plain_meta", hs "_abc_plain_meta", hPs (hAt hW [14]), .stmts (hBd (hAt hW [14])), hSc (hAt hW [14]), 3, [], .none, .none, .none, .str (hs "collections.abc") 540, none, .ref 127, .none, 0⟩, #[]⟩
noncomputable def ho129 (P : Params) : Obj := ⟨.type "tuple", none, .seq #[] 0, #[]⟩
noncomputable def ho130 (P : Params) : Obj := ⟨.none, none, .fields #[], #[]⟩
noncomputable def ho131 (P : Params) : Obj := ⟨.type "tuple", none, .seq #[.str (hs "path") 595, .str (hs "kind") 596, .str (hs "hook") 597, .str (hs "given") 598] 0, #[]⟩
noncomputable def ho132 (P : Params) : Obj := ⟨.type "tuple", none, .seq #[] 0, #[]⟩
noncomputable def ho133 (P : Params) : Obj := ⟨.none, none, .func ⟨hs "fspath", hs "fspath", hPs (hAt hW [16]), .stmts (hBd (hAt hW [16])), hSc (hAt hW [16]), 0, [], .none, .none, .none, .none, none, .none, .none, 0⟩, #[]⟩
noncomputable def ho134 (P : Params) : Obj := ⟨.type "code", none, .fields #[.str (hs "fspath") 592, .str (hs "fspath") 593, .str (hs "/claim/cut.py") 594, .int (108) 0, .int (1) 0, .int (0) 0, .int (0) 0, .int (3) 0, .ref 129, .bool true, .int (276) 0, .ref 130, .none, .ref 131, .ref 132, .ref 133, .int (599) 0, .int (108) 0, .str (hs "/claim/cut.py") 600], #[]⟩
noncomputable def ho135 (P : Params) : Obj := ⟨.type "function", none, .func ⟨hs "fspath", hs "fspath", hPs (hAt hW [16]), .stmts (hBd (hAt hW [16])), hSc (hAt hW [16]), 3, [], .none, .none, .none, .str (hs "os") 590, none, .ref 134, .none, 0⟩, #[]⟩
noncomputable def ho136 (P : Params) : Obj := ⟨.type "tuple", none, .seq #[] 0, #[]⟩
noncomputable def ho137 (P : Params) : Obj := ⟨.none, none, .fields #[], #[]⟩
noncomputable def ho138 (P : Params) : Obj := ⟨.type "tuple", none, .seq #[.str (hs "m") 607, .str (hs "s1") 608, .str (hs "s2") 609, .str (hs "i") 610, .str (hs "c") 611] 0, #[]⟩
noncomputable def ho139 (P : Params) : Obj := ⟨.type "tuple", none, .seq #[] 0, #[]⟩
noncomputable def ho140 (P : Params) : Obj := ⟨.none, none, .func ⟨hs "commonprefix", hs "commonprefix", hPs (hAt hW [18]), .stmts (hBd (hAt hW [18])), hSc (hAt hW [18]), 0, [], .none, .none, .none, .none, none, .none, .none, 0⟩, #[]⟩
noncomputable def ho141 (P : Params) : Obj := ⟨.type "code", none, .fields #[.str (hs "commonprefix") 604, .str (hs "commonprefix") 605, .str (hs "/claim/cut.py") 606, .int (125) 0, .int (1) 0, .int (0) 0, .int (0) 0, .int (3) 0, .ref 136, .bool true, .int (276) 0, .ref 137, .none, .ref 138, .ref 139, .ref 140, .int (612) 0, .int (125) 0, .str (hs "/claim/cut.py") 613], #[]⟩
noncomputable def ho142 (P : Params) : Obj := ⟨.type "function", none, .func ⟨hs "commonprefix", hs "commonprefix", hPs (hAt hW [18]), .stmts (hBd (hAt hW [18])), hSc (hAt hW [18]), 3, [], .none, .none, .none, .str (hs "cpy313.genericpath") 602, none, .ref 141, .none, 0⟩, #[]⟩
noncomputable def ho143 (P : Params) : Obj := ⟨.type "tuple", none, .seq #[] 0, #[]⟩
noncomputable def ho144 (P : Params) : Obj := ⟨.none, none, .fields #[], #[]⟩
noncomputable def ho145 (P : Params) : Obj := ⟨.type "tuple", none, .seq #[.str (hs "funcname") 618, .str (hs "args") 619, .str (hs "hasstr") 620, .str (hs "hasbytes") 621, .str (hs "s") 622] 0, #[]⟩
noncomputable def ho146 (P : Params) : Obj := ⟨.type "tuple", none, .seq #[] 0, #[]⟩
noncomputable def ho147 (P : Params) : Obj := ⟨.none, none, .func ⟨hs "_check_arg_types", hs "_check_arg_types", hPs (hAt hW [19]), .stmts (hBd (hAt hW [19])), hSc (hAt hW [19]), 0, [], .none, .none, .none, .none, none, .none, .none, 0⟩, #[]⟩
noncomputable def ho148 (P : Params) : Obj := ⟨.type "code", none, .fields #[.str (hs "_check_arg_types") 615, .str (hs "_check_arg_types") 616, .str (hs "/claim/cut.py") 617, .int (136) 0, .int (1) 0, .int (0) 0, .int (0) 0, .int (7) 0, .ref 143, .bool true, .int (276) 0, .ref 144, .none, .ref 145, .ref 146, .ref 147, .int (623) 0, .int (136) 0, .str (hs "/claim/cut.py") 624], #[]⟩
noncomputable def ho149 (P : Params) : Obj := ⟨.type "function", none, .func ⟨hs "_check_arg_types", hs "_check_arg_types", hPs (hAt hW [19]), .stmts (hBd (hAt hW [19])), hSc (hAt hW [19]), 3, [], .none, .none, .none, .str (hs "cpy313.genericpath") 602, none, .ref 148, .none, 0⟩, #[]⟩
noncomputable def ho150 (P : Params) : Obj := ⟨.type "tuple", none, .seq #[] 0, #[]⟩
noncomputable def ho151 (P : Params) : Obj := ⟨.none, none, .fields #[], #[]⟩
noncomputable def ho152 (P : Params) : Obj := ⟨.type "tuple", none, .seq #[.str (hs "path") 631] 0, #[]⟩
noncomputable def ho153 (P : Params) : Obj := ⟨.type "tuple", none, .seq #[] 0, #[]⟩
noncomputable def ho154 (P : Params) : Obj := ⟨.none, none, .func ⟨hs "_get_sep", hs "_get_sep", hPs (hAt hW [21]), .stmts (hBd (hAt hW [21])), hSc (hAt hW [21]), 0, [], .none, .none, .none, .none, none, .none, .none, 0⟩, #[]⟩
noncomputable def ho155 (P : Params) : Obj := ⟨.type "code", none, .fields #[.str (hs "_get_sep") 628, .str (hs "_get_sep") 629, .str (hs "/claim/cut.py") 630, .int (148) 0, .int (1) 0, .int (0) 0, .int (0) 0, .int (3) 0, .ref 150, .bool true, .int (276) 0, .ref 151, .none, .ref 152, .ref 153, .ref 154, .int (632) 0, .int (148) 0, .str (hs "/claim/cut.py") 633], #[]⟩
noncomputable def ho156 (P : Params) : Obj := ⟨.type "function", none, .func ⟨hs "_get_sep", hs "_get_sep", hPs (hAt hW [21]), .stmts (hBd (hAt hW [21])), hSc (hAt hW [21]), 3, [], .none, .none, .none, .str (hs "cpy313.posixpath") 626, none, .ref 155, .none, 0⟩, #[]⟩
noncomputable def ho157 (P : Params) : Obj := ⟨.type "tuple", none, .seq #[] 0, #[]⟩
noncomputable def ho158 (P : Params) : Obj := ⟨.none, none, .fields #[], #[]⟩
noncomputable def ho159 (P : Params) : Obj := ⟨.type "tuple", none, .seq #[.str (hs "a") 638, .str (hs "p") 639, .str (hs "sep") 640, .str (hs "path") 641, .str (hs "b") 642] 0, #[]⟩
noncomputable def ho160 (P : Params) : Obj := ⟨.type "tuple", none, .seq #[] 0, #[]⟩
noncomputable def ho161 (P : Params) : Obj := ⟨.none, none, .func ⟨hs "join", hs "join", hPs (hAt hW [22]), .stmts (hBd (hAt hW [22])), hSc (hAt hW [22]), 0, [], .none, .none, .none, .none, none, .none, .none, 0⟩, #[]⟩
noncomputable def ho162 (P : Params) : Obj := ⟨.type "code", none, .fields #[.str (hs "join") 635, .str (hs "join") 636, .str (hs "/claim/cut.py") 637, .int (153) 0, .int (1) 0, .int (0) 0, .int (0) 0, .int (7) 0, .ref 157, .bool true, .int (276) 0, .ref 158, .none, .ref 159, .ref 160, .ref 161, .int (643) 0, .int (153) 0, .str (hs "/claim/cut.py") 644], #[]⟩
noncomputable def ho163 (P : Params) : Obj := ⟨.type "function", none, .func ⟨hs "join", hs "join", hPs (hAt hW [22]), .stmts (hBd (hAt hW [22])), hSc (hAt hW [22]), 3, [], .none, .none, .none, .str (hs "cpy313.posixpath") 626, none, .ref 162, .none, 0⟩, #[]⟩
noncomputable def ho164 (P : Params) : Obj := ⟨.type "tuple", none, .seq #[] 0, #[]⟩
noncomputable def ho165 (P : Params) : Obj := ⟨.none, none, .fields #[], #[]⟩
noncomputable def ho166 (P : Params) : Obj := ⟨.type "tuple", none, .seq #[.str (hs "p") 649, .str (hs "sep") 650, .str (hs "empty") 651] 0, #[]⟩
noncomputable def ho167 (P : Params) : Obj := ⟨.type "tuple", none, .seq #[] 0, #[]⟩
noncomputable def ho168 (P : Params) : Obj := ⟨.none, none, .func ⟨hs "splitroot", hs "splitroot", hPs (hAt hW [23]), .stmts (hBd (hAt hW [23])), hSc (hAt hW [23]), 0, [], .none, .none, .none, .none, none, .none, .none, 0⟩, #[]⟩
noncomputable def ho169 (P : Params) : Obj := ⟨.type "code", none, .fields #[.str (hs "splitroot") 646, .str (hs "splitroot") 647, .str (hs "/claim/cut.py") 648, .int (170) 0, .int (1) 0, .int (0) 0, .int (0) 0, .int (3) 0, .ref 164, .bool true, .int (276) 0, .ref 165, .none, .ref 166, .ref 167, .ref 168, .int (652) 0, .int (170) 0, .str (hs "/claim/cut.py") 653], #[]⟩
noncomputable def ho170 (P : Params) : Obj := ⟨.type "function", none, .func ⟨hs "splitroot", hs "splitroot", hPs (hAt hW [23]), .stmts (hBd (hAt hW [23])), hSc (hAt hW [23]), 3, [], .none, .none, .none, .str (hs "cpy313.posixpath") 626, none, .ref 169, .none, 0⟩, #[]⟩
noncomputable def ho171 (P : Params) : Obj := ⟨.type "tuple", none, .seq #[] 0, #[]⟩
noncomputable def ho172 (P : Params) : Obj := ⟨.none, none, .fields #[], #[]⟩
noncomputable def ho173 (P : Params) : Obj := ⟨.type "tuple", none, .seq #[.str (hs "p") 658, .str (hs "sep") 659, .str (hs "i") 660] 0, #[]⟩
noncomputable def ho174 (P : Params) : Obj := ⟨.type "tuple", none, .seq #[] 0, #[]⟩
noncomputable def ho175 (P : Params) : Obj := ⟨.none, none, .func ⟨hs "basename", hs "basename", hPs (hAt hW [24]), .stmts (hBd (hAt hW [24])), hSc (hAt hW [24]), 0, [], .none, .none, .none, .none, none, .none, .none, 0⟩, #[]⟩
noncomputable def ho176 (P : Params) : Obj := ⟨.type "code", none, .fields #[.str (hs "basename") 655, .str (hs "basename") 656, .str (hs "/claim/cut.py") 657, .int (184) 0, .int (1) 0, .int (0) 0, .int (0) 0, .int (3) 0, .ref 171, .bool true, .int (276) 0, .ref 172, .none, .ref 173, .ref 174, .ref 175, .int (661) 0, .int (184) 0, .str (hs "/claim/cut.py") 662], #[]⟩
noncomputable def ho177 (P : Params) : Obj := ⟨.type "function", none, .func ⟨hs "basename", hs "basename", hPs (hAt hW [24]), .stmts (hBd (hAt hW [24])), hSc (hAt hW [24]), 3, [], .none, .none, .none, .str (hs "cpy313.posixpath") 626, none, .ref 176, .none, 0⟩, #[]⟩
noncomputable def ho178 (P : Params) : Obj := ⟨.type "tuple", none, .seq #[] 0, #[]⟩
noncomputable def ho179 (P : Params) : Obj := ⟨.none, none, .fields #[], #[]⟩
noncomputable def ho180 (P : Params) : Obj := ⟨.type "tuple", none, .seq #[.str (hs "p") 667, .str (hs "sep") 668, .str (hs "i") 669, .str (hs "head") 670] 0, #[]⟩
noncomputable def ho181 (P : Params) : Obj := ⟨.type "tuple", none, .seq #[] 0, #[]⟩
noncomputable def ho182 (P : Params) : Obj := ⟨.none, none, .func ⟨hs "dirname", hs "dirname", hPs (hAt hW [25]), .stmts (hBd (hAt hW [25])), hSc (hAt hW [25]), 0, [], .none, .none, .none, .none, none, .none, .none, 0⟩, #[]⟩
noncomputable def ho183 (P : Params) : Obj := ⟨.type "code", none, .fields #[.str (hs "dirname") 664, .str (hs "dirname") 665, .str (hs "/claim/cut.py") 666, .int (189) 0, .int (1) 0, .int (0) 0, .int (0) 0, .int (3) 0, .ref 178, .bool true, .int (276) 0, .ref 179, .none, .ref 180, .ref 181, .ref 182, .int (671) 0, .int (189) 0, .str (hs "/claim/cut.py") 672], #[]⟩
noncomputable def ho184 (P : Params) : Obj := ⟨.type "function", none, .func ⟨hs "dirname", hs "dirname", hPs (hAt hW [25]), .stmts (hBd (hAt hW [25])), hSc (hAt hW [25]), 3, [], .none, .none, .none, .str (hs "cpy313.posixpath") 626, none, .ref 183, .none, 0⟩, #[]⟩
noncomputable def ho185 (P : Params) : Obj := ⟨.type "tuple", none, .seq #[] 0, #[]⟩
noncomputable def ho186 (P : Params) : Obj := ⟨.none, none, .fields #[], #[]⟩
noncomputable def ho187 (P : Params) : Obj := ⟨.type "tuple", none, .seq #[.str (hs "path") 677, .str (hs "sep") 678, .str (hs "dot") 679, .str (hs "dotdot") 680, .str (hs "_") 681, .str (hs "initial_slashes") 682, .str (hs "comps") 683, .str (hs "new_comps") 684, .str (hs "comp") 685] 0, #[]⟩
noncomputable def ho188 (P : Params) : Obj := ⟨.type "tuple", none, .seq #[] 0, #[]⟩
noncomputable def ho189 (P : Params) : Obj := ⟨.none, none, .func ⟨hs "normpath", hs "normpath", hPs (hAt hW [26]), .stmts (hBd (hAt hW [26])), hSc (hAt hW [26]), 0, [], .none, .none, .none, .none, none, .none, .none, 0⟩, #[]⟩
noncomputable def ho190 (P : Params) : Obj := ⟨.type "code", none, .fields #[.str (hs "normpath") 674, .str (hs "normpath") 675, .str (hs "/claim/cut.py") 676, .int (197) 0, .int (1) 0, .int (0) 0, .int (0) 0, .int (3) 0, .ref 185, .bool true, .int (276) 0, .ref 186, .none, .ref 187, .ref 188, .ref 189, .int (686) 0, .int (197) 0, .str (hs "/claim/cut.py") 687], #[]⟩
noncomputable def ho191 (P : Params) : Obj := ⟨.type "function", none, .func ⟨hs "normpath", hs "normpath", hPs (hAt hW [26]), .stmts (hBd (hAt hW [26])), hSc (hAt hW [26]), 3, [], .none, .none, .none, .str (hs "cpy313.posixpath") 626, none, .ref 190, .none, 0⟩, #[]⟩
noncomputable def ho192 (P : Params) : Obj := ⟨.type "tuple", none, .seq #[] 0, #[]⟩
noncomputable def ho193 (P : Params) : Obj := ⟨.none, none, .fields #[], #[]⟩
noncomputable def ho194 (P : Params) : Obj := ⟨.type "tuple", none, .seq #[.str (hs "path") 692] 0, #[]⟩
noncomputable def ho195 (P : Params) : Obj := ⟨.type "tuple", none, .seq #[] 0, #[]⟩
noncomputable def ho196 (P : Params) : Obj := ⟨.none, none, .func ⟨hs "abspath", hs "abspath", hPs (hAt hW [27]), .stmts (hBd (hAt hW [27])), hSc (hAt hW [27]), 0, [], .none, .none, .none, .none, none, .none, .none, 0⟩, #[]⟩
noncomputable def ho197 (P : Params) : Obj := ⟨.type "code", none, .fields #[.str (hs "abspath") 689, .str (hs "abspath") 690, .str (hs "/claim/cut.py") 691, .int (222) 0, .int (1) 0, .int (0) 0, .int (0) 0, .int (3) 0, .ref 192, .bool true, .int (276) 0, .ref 193, .none, .ref 194, .ref 195, .ref 196, .int (693) 0, .int (222) 0, .str (hs "/claim/cut.py") 694], #[]⟩
noncomputable def ho198 (P : Params) : Obj := ⟨.type "function", none, .func ⟨hs "abspath", hs "abspath", hPs (hAt hW [27]), .stmts (hBd (hAt hW [27])), hSc (hAt hW [27]), 3, [], .none, .none, .none, .str (hs "cpy313.posixpath") 626, none, .ref 197, .none, 0⟩, #[]⟩
noncomputable def ho199 (P : Params) : Obj := ⟨.type "tuple", none, .seq #[.none] 0, #[]⟩
noncomputable def ho200 (P : Params) : Obj := ⟨.type "tuple", none, .seq #[] 0, #[]⟩
noncomputable def ho201 (P : Params) : Obj := ⟨.none, none, .fields #[], #[]⟩
noncomputable def ho202 (P : Params) : Obj := ⟨.type "tuple", none, .seq #[.str (hs "path") 699, .str (hs "start") 700, .str (hs "curdir") 701, .str (hs "sep") 702, .str (hs "pardir") 703, .str (hs "start_tail") 704, .str (hs "path_tail") 705, .str (hs "start_list") 706, .str (hs "path_list") 707, .str (hs "i") 708, .str (hs "rel_list") 709] 0, #[]⟩
noncomputable def ho203 (P : Params) : Obj := ⟨.type "tuple", none, .seq #[] 0, #[]⟩
noncomputable def ho204 (P : Params) : Obj := ⟨.none, none, .func ⟨hs "relpath", hs "relpath", hPs (hAt hW [28]), .stmts (hBd (hAt hW [28])), hSc (hAt hW [28]), 0, [], .none, .none, .none, .none, none, .none, .none, 0⟩, #[]⟩
noncomputable def ho205 (P : Params) : Obj := ⟨.type "code", none, .fields #[.str (hs "relpath") 696, .str (hs "relpath") 697, .str (hs "/claim/cut.py") 698, .int (230) 0, .int (2) 0, .int (0) 0, .int (0) 0, .int (3) 0, .ref 200, .bool true, .int (276) 0, .ref 201, .none, .ref 202, .ref 203, .ref 204, .int (710) 0, .int (230) 0, .str (hs "/claim/cut.py") 711], #[]⟩
noncomputable def ho206 (P : Params) : Obj := ⟨.type "function", none, .func ⟨hs "relpath", hs "relpath", hPs (hAt hW [28]), .stmts (hBd (hAt hW [28])), hSc (hAt hW [28]), 3, [], .ref 199, .none, .none, .str (hs "cpy313.posixpath") 626, none, .ref 205, .none, 0⟩, #[]⟩
noncomputable def ho207 (P : Params) : Obj := ⟨.type "tuple", none, .seq #[] 0, #[]⟩
noncomputable def ho208 (P : Params) : Obj := ⟨.none, none, .fields #[], #[]⟩
noncomputable def ho209 (P : Params) : Obj := ⟨.type "tuple", none, .seq #[.str (hs "parts") 718, .str (hs "star") 719, .str (hs "name") 720, .str (hs "runs") 721, .str (hs "at") 722, .str (hs "k") 723, .str (hs "start") 724] 0, #[]⟩
noncomputable def ho210 (P : Params) : Obj := ⟨.type "tuple", none, .seq #[] 0, #[]⟩
noncomputable def ho211 (P : Params) : Obj := ⟨.none, none, .func ⟨hs "_law_runs", hs "_law_runs", hPs (hAt hW [30]), .stmts (hBd (hAt hW [30])), hSc (hAt hW [30]), 0, [], .none, .none, .none, .none, none, .none, .none, 0⟩, #[]⟩
noncomputable def ho212 (P : Params) : Obj := ⟨.type "code", none, .fields #[.str (hs "_law_runs") 715, .str (hs "_law_runs") 716, .str (hs "/claim/cut.py") 717, .int (260) 0, .int (3) 0, .int (0) 0, .int (0) 0, .int (3) 0, .ref 207, .bool true, .int (276) 0, .ref 208, .none, .ref 209, .ref 210, .ref 211, .int (725) 0, .int (260) 0, .str (hs "/claim/cut.py") 726], #[]⟩
noncomputable def ho213 (P : Params) : Obj := ⟨.type "function", none, .func ⟨hs "_law_runs", hs "_law_runs", hPs (hAt hW [30]), .stmts (hBd (hAt hW [30])), hSc (hAt hW [30]), 3, [], .none, .none, .none, .str (hs "law_dn0069_07") 713, none, .ref 212, .none, 0⟩, #[]⟩
noncomputable def ho214 (P : Params) : Obj := ⟨.type "tuple", none, .seq #[] 0, #[]⟩
noncomputable def ho215 (P : Params) : Obj := ⟨.none, none, .fields #[], #[]⟩
noncomputable def ho216 (P : Params) : Obj := ⟨.type "tuple", none, .seq #[.str (hs "marks") 731, .str (hs "runs") 732, .str (hs "out") 733, .str (hs "k") 734] 0, #[]⟩
noncomputable def ho217 (P : Params) : Obj := ⟨.type "tuple", none, .seq #[] 0, #[]⟩
noncomputable def ho218 (P : Params) : Obj := ⟨.none, none, .func ⟨hs "_law_laid", hs "_law_laid", hPs (hAt hW [31]), .stmts (hBd (hAt hW [31])), hSc (hAt hW [31]), 0, [], .none, .none, .none, .none, none, .none, .none, 0⟩, #[]⟩
noncomputable def ho219 (P : Params) : Obj := ⟨.type "code", none, .fields #[.str (hs "_law_laid") 728, .str (hs "_law_laid") 729, .str (hs "/claim/cut.py") 730, .int (276) 0, .int (2) 0, .int (0) 0, .int (0) 0, .int (3) 0, .ref 214, .bool true, .int (276) 0, .ref 215, .none, .ref 216, .ref 217, .ref 218, .int (735) 0, .int (276) 0, .str (hs "/claim/cut.py") 736], #[]⟩
noncomputable def ho220 (P : Params) : Obj := ⟨.type "function", none, .func ⟨hs "_law_laid", hs "_law_laid", hPs (hAt hW [31]), .stmts (hBd (hAt hW [31])), hSc (hAt hW [31]), 3, [], .none, .none, .none, .str (hs "law_dn0069_07") 713, none, .ref 219, .none, 0⟩, #[]⟩
noncomputable def ho221 (P : Params) : Obj := ⟨.type "tuple", none, .seq #[] 0, #[]⟩
noncomputable def ho222 (P : Params) : Obj := ⟨.none, none, .fields #[], #[]⟩
noncomputable def ho223 (P : Params) : Obj := ⟨.none, none, .func ⟨hs "law", hs "law", hPs (hAt hW [32]), .stmts (hBd (hAt hW [32])), hSc (hAt hW [32]), 0, [], .none, .none, .none, .none, none, .none, .none, 0⟩, #[]⟩
noncomputable def ho224 (P : Params) : Obj := ⟨.type "code", none, .fields #[.str (hs "law") 738, .str (hs "law") 739, .str (hs "/claim/cut.py") 740, .int (281) 0, .int (1) 0, .int (0) 0, .int (0) 0, .int (3) 0, .ref 221, .bool true, .int (276) 0, .ref 222, .none, .none, .none, .ref 223, .int (741) 0, .int (281) 0, .str (hs "/claim/cut.py") 742], #[]⟩
noncomputable def ho225 (P : Params) : Obj := ⟨.type "function", none, .func ⟨hs "law", hs "law", hPs (hAt hW [32]), .stmts (hBd (hAt hW [32])), hSc (hAt hW [32]), 3, [], .none, .none, .none, .str (hs "law_dn0069_07") 713, none, .ref 224, .none, 0⟩, #[]⟩
noncomputable def hp32 (P : Params) : Heap := ⟨Array.mk [boot_o_0 P, ho1 P, ho2 P, ho3xxx P, boot_o_4 P, boot_o_5 P, boot_o_6 P, boot_o_7 P, boot_o_8 P, boot_o_9 P, boot_o_10 P, ho11 P, ho12 P, ho13 P, ho14 P, ho15 P, ho16 P, ho17 P, ho18 P, ho19 P, ho20 P, ho21 P, ho22 P, ho23 P, ho24 P, ho25 P, ho26 P, ho27 P, ho28 P, ho29xx P, ho30 P, ho31 P, ho32 P, ho33 P, ho34 P, ho35 P, ho36 P, ho37 P, ho38 P, ho39 P, ho40 P, ho41 P, ho42 P, ho43 P, ho44 P, ho45 P, ho46 P, ho47 P, ho48 P, ho49 P, ho50 P, ho51 P, ho52 P, ho53 P, ho54 P, ho55 P, ho56 P, ho57 P, ho58 P, ho59 P, ho60 P, ho61 P, ho62 P, ho63 P, ho64 P, ho65 P, ho66 P, ho67 P, ho68 P, ho69 P, ho70 P, ho71 P, ho72 P, ho73 P, ho74 P, ho75 P, ho76 P, ho77 P, ho78 P, ho79 P, ho80 P, ho81 P, ho82 P, ho83 P, ho84 P, ho85 P, ho86 P, ho87 P, ho88 P, ho89 P, ho90 P, ho91 P, ho92 P, ho93 P, ho94 P, ho95 P, ho96 P, ho97 P, ho98 P, ho99 P, ho100 P, ho101 P, ho102 P, ho103 P, ho104 P, ho105 P, ho106 P, ho107 P, ho108 P, ho109 P, ho110 P, ho111 P, ho112 P, ho113 P, ho114 P, ho115 P, ho116 P, ho117 P, ho118 P, ho119 P, ho120 P, ho121 P, ho122 P, ho123 P, ho124 P, ho125 P, ho126 P, ho127 P, ho128 P, ho129 P, ho130 P, ho131 P, ho132 P, ho133 P, ho134 P, ho135 P, ho136 P, ho137 P, ho138 P, ho139 P, ho140 P, ho141 P, ho142 P, ho143 P, ho144 P, ho145 P, ho146 P, ho147 P, ho148 P, ho149 P, ho150 P, ho151 P, ho152 P, ho153 P, ho154 P, ho155 P, ho156 P, ho157 P, ho158 P, ho159 P, ho160 P, ho161 P, ho162 P, ho163 P, ho164 P, ho165 P, ho166 P, ho167 P, ho168 P, ho169 P, ho170 P, ho171 P, ho172 P, ho173 P, ho174 P, ho175 P, ho176 P, ho177 P, ho178 P, ho179 P, ho180 P, ho181 P, ho182 P, ho183 P, ho184 P, ho185 P, ho186 P, ho187 P, ho188 P, ho189 P, ho190 P, ho191 P, ho192 P, ho193 P, ho194 P, ho195 P, ho196 P, ho197 P, ho198 P, ho199 P, ho200 P, ho201 P, ho202 P, ho203 P, ho204 P, ho205 P, ho206 P, ho207 P, ho208 P, ho209 P, ho210 P, ho211 P, ho212 P, ho213 P, ho214 P, ho215 P, ho216 P, ho217 P, ho218 P, ho219 P, ho220 P, ho221 P, ho222 P, ho223 P, ho224 P, ho225 P], { }⟩
noncomputable def zk (P : Params) : Frag := [(2, ho2 P), (3, ho3xxx P), (42, ho42 P), (43, ho43 P), (45, ho45 P), (54, ho54 P), (55, ho55 P), (57, ho57 P), (61, ho61 P), (62, ho62 P), (134, ho134 P), (135, ho135 P), (141, ho141 P), (142, ho142 P), (155, ho155 P), (156, ho156 P), (162, ho162 P), (163, ho163 P), (169, ho169 P), (170, ho170 P), (176, ho176 P), (177, ho177 P), (183, ho183 P), (184, ho184 P), (190, ho190 P), (191, ho191 P), (197, ho197 P), (198, ho198 P), (199, ho199 P), (205, ho205 P), (206, ho206 P), (212, ho212 P), (213, ho213 P), (219, ho219 P), (220, ho220 P), (224, ho224 P), (225, ho225 P)]
noncomputable abbrev zas : List Addr := [2, 3, 42, 43, 45, 54, 55, 57, 61, 62, 134, 135, 141, 142, 155, 156, 162, 163, 169, 170, 176, 177, 183, 184, 190, 191, 197, 198, 199, 205, 206, 212, 213, 219, 220, 224, 225]
theorem zkeys (P : Params) : zas = (zk P).map (·.1) := rfl
noncomputable abbrev hPr : Program := PySem.Challenge.rw_dn0069_07.row.prog
noncomputable abbrev hB : List Stmt := behindTheImports hPr
noncomputable def hEnv : Env := { scope := hPr.main.scope, locals := mainNs, globals := mainNs, cells := [], code := PySem.Value.ref 30, frame := some 31 }
noncomputable abbrev hC : Code := .body hB hEnv
theorem hpre (w : World) (os : OsState) : topGo treeTable hPr w 28 (some (PySem.Value.ref 6)) 12 (⟨hp0 (w).params, Array.mk [], { }, 276, os⟩ : Shared) (topStub hPr) = some ((⟨hp_pre (w).params, Array.mk [], { }, 282, os⟩ : Shared), ⟨denote treeTable hC, hC, { line := 0, col := 0, endLine := 0, endCol := 0 }, [topFrame ({ line := 0, col := 0, endLine := 0, endCol := 0 } : Pos)]⟩) := by kernel_rfl
theorem hblock (w : World) (os : OsState) : segRun treeTable hPr w 28 (some (PySem.Value.ref 6)) 1 (0 + 1) (⟨hp_pre (w).params, Array.mk [], { }, 282, os⟩ : Shared) (blockOf hB hEnv hC { line := 0, col := 0, endLine := 0, endCol := 0 } [topFrame ({ line := 0, col := 0, endLine := 0, endCol := 0 } : Pos)]) = some (.next, (⟨hp_pre (w).params, Array.mk [], { }, 282, os⟩ : Shared), hC, { line := 0, col := 0, endLine := 0, endCol := 0 }) := by kernel_rfl
theorem hseg3 (w : World) : ∀ os : OsState, segRun treeTable hPr (w) 28 (some (PySem.Value.ref 6)) 1 (119 + 1) (⟨hp_pre (w).params, Array.mk [], { }, 282, os⟩ : Shared) (piecesOf ((hB.drop 0).take 3) hEnv hC { line := 0, col := 0, endLine := 0, endCol := 0 } [topFrame ({ line := 0, col := 0, endLine := 0, endCol := 0 } : Pos)]) = some (.next, (⟨hp3 (w).params, Array.mk [], { }, 329, os⟩ : Shared), hC, { line := 6, col := 0, endLine := 6, endCol := 8 }) := by
  intro os; kernel_rfl
theorem rows2 (r0 r1 : String) {P : World → Prop} (h00 : ∀ w : World, P ((w.withFollow r1 false).withFollow r0 false)) (h01 : ∀ w : World, P ((w.withFollow r1 true).withFollow r0 false)) (h10 : ∀ w : World, P ((w.withFollow r1 false).withFollow r0 true)) (h11 : ∀ w : World, P ((w.withFollow r1 true).withFollow r0 true)) : ∀ w, P w := (fun w => byRow2 r0 (P := fun w => P w) (fun w => byRow2 r1 (P := fun w => P (w.withFollow r0 false)) h00 h01 w) (fun w => byRow2 r1 (P := fun w => P (w.withFollow r0 true)) h10 h11 w) w)
noncomputable abbrev hS4 (w : World) : Prop := ∀ os : OsState, segRun treeTable hPr (w) 28 (some (PySem.Value.ref 6)) 1 (1252 + 1) (⟨hp3 (w).params, Array.mk [], { }, 329, os⟩ : Shared) (piecesOf ((hB.drop 3).take 1) hEnv hC { line := 6, col := 0, endLine := 6, endCol := 8 } [topFrame ({ line := 0, col := 0, endLine := 0, endCol := 0 } : Pos)]) = some (.next, (⟨hp4 (w).params, Array.mk [], { }, 475, os⟩ : Shared), hC, { line := 7, col := 0, endLine := 7, endCol := 18 })
theorem hseg4_00 (w : World) : hS4 (World.withFollow (World.withFollow w "special-get-raises" false) "comprehension-iter-twice" false) := by
  intro os; kernel_rfl
theorem hseg4_01 (w : World) : hS4 (World.withFollow (World.withFollow w "special-get-raises" true) "comprehension-iter-twice" false) := by
  intro os; kernel_rfl
theorem hseg4_10 (w : World) : hS4 (World.withFollow (World.withFollow w "special-get-raises" false) "comprehension-iter-twice" true) := by
  intro os; kernel_rfl
theorem hseg4_11 (w : World) : hS4 (World.withFollow (World.withFollow w "special-get-raises" true) "comprehension-iter-twice" true) := by
  intro os; kernel_rfl
theorem hseg4 (w : World) : ∀ os : OsState, segRun treeTable hPr (w) 28 (some (PySem.Value.ref 6)) 1 (1252 + 1) (⟨hp3 (w).params, Array.mk [], { }, 329, os⟩ : Shared) (piecesOf ((hB.drop 3).take 1) hEnv hC { line := 6, col := 0, endLine := 6, endCol := 8 } [topFrame ({ line := 0, col := 0, endLine := 0, endCol := 0 } : Pos)]) = some (.next, (⟨hp4 (w).params, Array.mk [], { }, 475, os⟩ : Shared), hC, { line := 7, col := 0, endLine := 7, endCol := 18 }) := rows2 "comprehension-iter-twice" "special-get-raises" (P := hS4) hseg4_00 hseg4_01 hseg4_10 hseg4_11 w
theorem hseg32 (w : World) : ∀ os : OsState, segRun treeTable hPr (w) 28 (some (PySem.Value.ref 6)) 1 (1173 + 1) (⟨hp4 (w).params, Array.mk [], { }, 475, os⟩ : Shared) (piecesOf ((hB.drop 4).take 28) hEnv hC { line := 7, col := 0, endLine := 7, endCol := 18 } [topFrame ({ line := 0, col := 0, endLine := 0, endCol := 0 } : Pos)]) = some (.next, (⟨hp32 (w).params, Array.mk [], { }, 744, os⟩ : Shared), hC, { line := 281, col := 0, endLine := 323, endCol := 15 }) := by
  intro os; kernel_rfl
theorem hfin (w : World) (os : OsState) : topRun treeTable hPr w 28 (some (PySem.Value.ref 6)) (1 + 1) (⟨hp32 (w).params, Array.mk [], { }, 744, os⟩ : Shared) (restOf [] hEnv hC { line := 281, col := 0, endLine := 323, endCol := 15 } [topFrame ({ line := 0, col := 0, endLine := 0, endCol := 0 } : Pos)]) = some (⟨hp32 (w).params, Array.mk [], { }, 744, os⟩ : Shared) := by kernel_rfl
theorem hcat : hB = (((hB.drop 0).take 3) ++ (((hB.drop 3).take 1) ++ (((hB.drop 4).take 28) ++ []))) := by kernel_rfl
theorem hrun (w : World) (os : OsState) : topRun treeTable hPr w 28 (some (PySem.Value.ref 6)) (12 + ((0 + 1) + ((119 + 1) + ((1252 + 1) + ((1173 + 1) + (1 + 1)))))) (⟨hp0 (w).params, Array.mk [], { }, 276, os⟩ : Shared) (topStub hPr) = some (⟨hp32 (w).params, Array.mk [], { }, 744, os⟩ : Shared) := by
  have k := (piece_app (hseg3 w os) (piece_app (hseg4 w os) (piece_app (hseg32 w os) (hfin w os))))
  rw [← hcat] at k
  exact go_top (hpre w os) (piece_block (hblock w os) k)
theorem hsize (w : World) : ((hp0 w.params).isNs mainGlobals && (Array.mk [] : Array GenState).size == 0, (hp0 w.params).objs.size, (hp0 w.params).nsMap mainGlobals "__annotations__") = (true, 28, (some (PySem.Value.ref 6) : Option PySem.Value)) := by kernel_rfl
theorem hlooks (w : World) : (fun os => ((staticsOk (importedModules hPr.main.body) (hp0 w.params) (hp32 w.params) && namesBound hPr (hp32 w.params) && gensDone (⟨hp32 (w).params, Array.mk [], { }, 744, os⟩ : Shared) && laidKept (hp0 w.params) (hp32 w.params)), openSeen view07 [PySem.Str.ofString "_twin_re_1", PySem.Str.ofString "_special_chars_map", PySem.Str.ofString "relpath"] (importedModules hPr.main.body) (fun s => xlAt view07 [] s && recOk (RowW.records PySem.Challenge.rw_dn0069_07.row.toRowW) s) true (⟨hp32 (w).params, Array.mk [], { }, 744, os⟩ : Shared), obsZ zas (⟨hp32 (w).params, Array.mk [], { }, 744, os⟩ : Shared))) = fun _ => (true, openGood view07 [PySem.Str.ofString "_twin_re_1", PySem.Str.ofString "_special_chars_map", PySem.Str.ofString "relpath"], valZ zk 226 744 w) := by kernel_rfl
theorem hopen (w : World) : (fencedOpening treeTable hPr w 5214).map (fun s => (s.heap, s.gens, s.drawn, s.toks)) = some (hp0 w.params, Array.mk [], { }, 276) := by kernel_rfl
theorem said07 : PySem.Challenge.rw_dn0069_07.wellSaid = true := by
  kernel_rfl
theorem hleft : LeftO hPr view07 [PySem.Str.ofString "_twin_re_1", PySem.Str.ofString "_special_chars_map", PySem.Str.ofString "relpath"] (fun s => xlAt view07 [] s && recOk (RowW.records PySem.Challenge.rw_dn0069_07.row.toRowW) s) (obsZ zas) (valZ zk 226 744) 5214 := LeftO.of_pieces (H₀ := hp0) (H₁ := hp32) (gs₀ := Array.mk []) (gs₁ := Array.mk []) (d₀ := { }) (d₁ := { }) (k₀ := 276) (k₁ := 744) (m₀ := 28) (ann := some (PySem.Value.ref 6)) (M := (12 + ((0 + 1) + ((119 + 1) + ((1252 + 1) + ((1173 + 1) + (1 + 1))))))) hopen hsize hrun (by kernel_rfl) hlooks
end Mine
end H07x
section Mp0x
open PySem
namespace Mine
noncomputable abbrev lobj (vs : Array Value) (n : Nat) : Obj := { cls := .type "list", data := .seq vs n }
noncomputable abbrev tobj (vs : Array Value) (n : Nat) : Obj := { cls := .type "tuple", data := .seq vs n }
noncomputable abbrev appObj (a : Addr) : Obj := { cls := .type "builtin_function_or_method", data := .fields #[.builtin "list.append", .ref a] }
end Mine
end Mp0x
section MpK0x
open PySem
namespace Mine
theorem kind_issub_nested : builtinKind "issubclass.nested" = none := by decide +kernel
theorem plain_issub_nested : plainId "issubclass.nested" = true := by decide +kernel
theorem args_issub_nested_3 (a b c : Value) : argsOk "issubclass.nested" ⟨[a, b, c], []⟩ := by unfold argsOk; kernel_rfl
theorem sub_str_str' : isSubtype (.type "str") (.type "str") = pure true := by rw [isSubtype_type]; kernel_rfl
section
variable {prog : Program} {w : World} {A : Around} {E : Value → Shared → Prop}
theorem issub_nested_str (dep : Int) (tk : Tok) : Meets (Builtin.«issubclass.nested» ⟨[.type "str", .type "str", .int dep tk], []⟩) (fun _ R s => R (.ok (.ret (.bool true))) s) :=
  .of_wp fun prog w A R s h => by
    obtain ⟨hh, g, d, t, os⟩ := s
    have f1 := sub_str_str'
    have f2 : typeOf (.type "str") = pure (.type "type") := rfl
    repeat (any_goals (first | assumption | (rw [f1]) | wp_step))
    all_goals exact ⟨_, rfl, h⟩
theorem issub_nested_tuple {tp : Addr} {c2 : Value} {n : Nat} {tk : Tok} {s : Shared} {Q : Fin → Shared → Prop} (htp : s.heap.get? tp = some { cls := .type "tuple", data := .seq [Value.type "str", c2].toArray n })
    (hq : ∀ tk', Q (.done (.ret (.bool true))) { s with toks := tk' }) : wpAny (model prog w) A (Builtin.«issubclass.nested» ⟨[.type "str", .ref tp, .int 0 tk], []⟩) Q E s := by
  obtain ⟨h, g, d, t, os⟩ := s
  have hT2 : (⟨h, g, d, t, os⟩ : Shared).TypeIs (.ref tp) "tuple" := ⟨_, htp, rfl⟩
  have f1 := F.isi_sub_tuple
  repeat (any_goals (first | assumption | ((with_reducible show wpAny _ _ (call (Value.builtin "issubclass.nested") _ _) _ _ _); refine call_function_meets kind_issub_nested plain_issub_nested F.entry_issubclass_nested (args_issub_nested_3 _ _ _) (issub_nested_str _ _) ?_) | wp_step))
  exact hq _
theorem call_issub_tuple {tp : Addr} {c2 : Value} {n : Nat} {s : Shared} {Q : Value → Shared → Prop} (htp : s.heap.get? tp = some { cls := .type "tuple", data := .seq [Value.type "str", c2].toArray n })
    (hq : ∀ tk', Q (.bool true) { s with toks := tk' }) : wpAny (model prog w) A (call (.builtin "issubclass") [.type "str", .ref tp]) Q E s := by
  have g : Meets (Builtin.«issubclass» ⟨[.type "str", .ref tp], []⟩) (fun _ R s => s.heap.get? tp = some { cls := .type "tuple", data := .seq [Value.type "str", c2].toArray n } ∧ ∀ tk', R (.ok (.ret (.bool true))) { s with toks := tk' }) :=
    fun _ _ _ _ _ hs => PyProof.Rows.issubclass_outer (issub_nested_tuple hs.1 fun tk' => hs.2 tk')
  exact PyProof.Rows.call_issubclass g ⟨htp, fun tk' => hq tk'⟩
end
end Mine
end MpK0x
section MpK1x
open PySem
namespace Mine
theorem sub_str_list : isSubtype (.type "str") (.type "list") = pure false := by rw [isSubtype_type]; kernel_rfl
theorem sub_str_tuple : isSubtype (.type "str") (.type "tuple") = pure false := by rw [isSubtype_type]; kernel_rfl
theorem sub_list_list' : isSubtype (.type "list") (.type "list") = pure true := by rw [isSubtype_type]; kernel_rfl
section
variable {prog : Program} {w : World} {A : Around} {E : Value → Shared → Prop}
theorem isi_str_false {x : Str} {u : Tok} {T : String} (hne : (Value.type "str" == Value.type T) = false) (hty : typeOf (.type T) = pure (.type "type")) (hsub : isSubtype (.type "str") (.type T) = pure false) (dep : Int) (tk : Tok) :
    Meets (Builtin.«isinstance.nested» ⟨[.str x u, .type T, .int dep tk], []⟩) (fun _ R s => ∀ tk', R (.ok (.ret (.bool false))) { s with toks := tk' }) :=
  .of_wp fun prog w A R s h => by
    obtain ⟨hh, g, d, t, os⟩ := s
    exact isinstance_nested_false_str hne hty hsub ⟨_, rfl, h _⟩
theorem isi_list_true {a : Addr} {vs : Array Value} {n : Nat} (dep : Int) (tk : Tok) :
    Meets (Builtin.«isinstance.nested» ⟨[.ref a, .type "list", .int dep tk], []⟩) (fun _ R s => s.heap.get? a = some (lobj vs n) ∧ ∀ tk', R (.ok (.ret (.bool true))) { s with toks := tk' }) :=
  .of_wp fun prog w A R s h => by
    obtain ⟨hh, g, d, t, os⟩ := s
    obtain ⟨hl, h⟩ := h
    have hT : (⟨hh, g, d, t, os⟩ : Shared).TypeIs (.ref a) "list" := ⟨_, hl, rfl⟩
    refine isinstance_nested_true rfl hT rfl sub_list_list' ⟨_, rfl, h _⟩
set_option maxHeartbeats 4000000 in
theorem isi_tuple_str {x : Str} {u : Tok} {tp : Addr} {n : Nat} {tk : Tok} {s : Shared} {Q : Fin → Shared → Prop} (htp : s.heap.get? tp = some { cls := .type "tuple", data := .seq [Value.type "list", Value.type "tuple"].toArray n })
    (hq : ∀ tk', Q (.done (.ret (.bool false))) { s with toks := tk' }) : wpAny (model prog w) A (Builtin.«isinstance.nested» ⟨[.str x u, .ref tp, .int 0 tk], []⟩) Q E s := by
  obtain ⟨h, g, d, t, os⟩ := s
  have hT2 : (⟨h, g, d, t, os⟩ : Shared).TypeIs (.ref tp) "tuple" := ⟨_, htp, rfl⟩
  have hx : ∀ t', (⟨h, g, d, t', os⟩ : Shared).TypeIs (.str x u) "str" := fun _ => rfl
  have f1 := F.isi_sub_tuple
  have k1 := fun tk => isi_str_false (x := x) (u := u) (T := "list") (by decide) rfl sub_str_list 1 tk
  have k2 := fun tk => isi_str_false (x := x) (u := u) (T := "tuple") (by decide) rfl sub_str_tuple 1 tk
  repeat (any_goals (first | assumption | exact hx _ | ((with_reducible show wpAny _ _ (call (Value.builtin "isinstance.nested") _ _) _ _ _); refine call_function_meets F.kind_isinstance_nested F.plain_isinstance_nested F.entry_isinstance_nested (F.args_isinstance_nested_3 _ _ _) (by first | exact k1 _ | exact k2 _) (fun tk' => ?_)) | wp_step))
  all_goals exact hq _
theorem isi_tuple_list {a : Addr} {vs : Array Value} {k : Nat} {tp : Addr} {n : Nat} {c2 : Value} {tk : Tok} {s : Shared} {Q : Fin → Shared → Prop} (hl : s.heap.get? a = some (lobj vs k)) (htp : s.heap.get? tp = some { cls := .type "tuple", data := .seq [Value.type "list", c2].toArray n })
    (hq : ∀ tk', Q (.done (.ret (.bool true))) { s with toks := tk' }) : wpAny (model prog w) A (Builtin.«isinstance.nested» ⟨[.ref a, .ref tp, .int 0 tk], []⟩) Q E s := by
  obtain ⟨h, g, d, t, os⟩ := s
  have hT2 : (⟨h, g, d, t, os⟩ : Shared).TypeIs (.ref tp) "tuple" := ⟨_, htp, rfl⟩
  have hx : ∀ t', (⟨h, g, d, t', os⟩ : Shared).TypeIs (.ref a) "list" := fun _ => ⟨_, hl, rfl⟩
  have f1 := F.isi_sub_tuple
  have k1 := fun tk => isi_list_true (a := a) (vs := vs) (n := k) 1 tk
  repeat (any_goals (first | assumption | exact hx _ | ((with_reducible show wpAny _ _ (call (Value.builtin "isinstance.nested") _ _) _ _ _); refine call_function_meets F.kind_isinstance_nested F.plain_isinstance_nested F.entry_isinstance_nested (F.args_isinstance_nested_3 _ _ _) (k1 _) ⟨hl, fun tk' => ?_⟩) | wp_step))
  all_goals exact hq _
theorem call_isi_str {x : Str} {u : Tok} {tp : Addr} {n : Nat} {s : Shared} {Q : Value → Shared → Prop} (htp : s.heap.get? tp = some { cls := .type "tuple", data := .seq [Value.type "list", Value.type "tuple"].toArray n })
    (hq : ∀ tk', Q (.bool false) { s with toks := tk' }) : wpAny (model prog w) A (call (.builtin "isinstance") [.str x u, .ref tp]) Q E s := by
  have g : Meets (Builtin.«isinstance» ⟨[.str x u, .ref tp], []⟩) (fun _ R s => s.heap.get? tp = some { cls := .type "tuple", data := .seq [Value.type "list", Value.type "tuple"].toArray n } ∧ ∀ tk', R (.ok (.ret (.bool false))) { s with toks := tk' }) :=
    fun _ _ _ _ s hs => isinstance_outer (isi_tuple_str hs.1 fun tk' => hs.2 tk') (Shared.TypeIs.not_mainsLoader (T := "str") (s := s) rfl)
  exact call_isinstance g ⟨htp, fun tk' => hq tk'⟩
theorem call_isi_list {a : Addr} {vs : Array Value} {k : Nat} {tp : Addr} {n : Nat} {c2 : Value} {s : Shared} {Q : Value → Shared → Prop} (hl : s.heap.get? a = some (lobj vs k)) (htp : s.heap.get? tp = some { cls := .type "tuple", data := .seq [Value.type "list", c2].toArray n })
    (hq : ∀ tk', Q (.bool true) { s with toks := tk' }) : wpAny (model prog w) A (call (.builtin "isinstance") [.ref a, .ref tp]) Q E s := by
  have g : Meets (Builtin.«isinstance» ⟨[.ref a, .ref tp], []⟩) (fun _ R s => s.heap.get? a = some (lobj vs k) ∧ s.heap.get? tp = some { cls := .type "tuple", data := .seq [Value.type "list", c2].toArray n } ∧ ∀ tk', R (.ok (.ret (.bool true))) { s with toks := tk' }) :=
    fun _ _ _ _ s hs => isinstance_outer (isi_tuple_list hs.1 hs.2.1 fun tk' => hs.2.2 tk') (Shared.TypeIs.not_mainsLoader (T := "list") (s := s) ⟨_, hs.1, rfl⟩)
  exact call_isinstance g ⟨hl, htp, fun tk' => hq tk'⟩
end
end Mine
end MpK1x
section MpQ0x
open PySem
namespace Mine
section
variable {prog : Program} {w : World} {A : Around} {E : Value → Shared → Prop} {s : Shared}
theorem setItem_own {l : Addr} {items : Array Value} {n k : Nat} {i : Int} {t : Tok} {v : Value} {Q : Unit → Shared → Prop} (hl : s.heap.IsList l items) (ho : s.heap.get? l = some { cls := .type "list", dict := none, data := .seq items n, slots := #[] }) (hfit : Builtin.List.listFitsIndex i = true)
    (hj : seqIndex? i items.size = some k) (hk : k < items.size)
    (hQ : Q () { s with heap := s.heap.update l (Obj.mapSeq fun xs => xs.setIfInBounds k v) }) : wpAny (model prog w) A (setItem (.ref l) (.int i t) v) Q E s := by
  unfold setItem
  try with_reducible refine wpAny_holding ?_
  first | refine wpAny_bind (wpAny_pure ?_) | skip
  refine wpAny_bind (wpAny_sequenceKey hl.typeIs (by decide) ?_)
  refine wpAny_bind (wpAny_callSpecial?_slot (name := Str.ofString "__setitem__") hl.typeIs slot_list_setitem
    (wpAny_call_entry slot_list_setitem hl.typeIs entry_list_setitem ?_ (args_list_setitem _ _ _)))
  show wpAny _ _ (Builtin.List.listSubscript? (.int i t) >>= _) _ _ s
  refine wpAny_bind (wpAny_listSubscript_int hfit ?_)
  clear hfit
  have hx' : items[k]? = some items[k] := Array.getElem?_eq_getElem hk
  cases i with
  | ofNat j =>
    have ejk : j = k := by
      unfold seqIndex? at hj
      simp at hj
      split at hj <;> omega
    subst ejk
    show wpAny _ _ ((seqItemAt l j >>= fun r => pure (r.map (j, ·))) >>= _) _ _ s
    refine wpAny_bind (wpAny_bind (wpAny_seqItemAt ho rfl (wpAny_pure ?_)))
    rw [hx']
    show wpAny _ _ (setSeqItemAt l j v >>= _) _ _ s
    refine wpAny_bind (wpAny_setSeqItemAt ho rfl ?_)
    first
      | exact wpAny_bind (wpAny_pure (wpAny_pure ⟨.none, rfl, wpAny_pure hQ⟩))
      | exact wpAny_pure ⟨.none, rfl, wpAny_pure hQ⟩
  | negSucc j =>
    show wpAny _ _ ((Builtin.List.listItems (.ref l) >>= fun xs => pure ((seqIndex? (Int.negSucc j) xs.size).bind fun j => xs[j]?.map (j, ·))) >>= _) _ _ s
    refine wpAny_bind (wpAny_bind ?_)
    unfold Builtin.List.listItems
    refine wpAny_bind (wpAny_seqItems ho rfl (wpAny_pure (wpAny_pure ?_)))
    rw [hj, Option.bind_some, hx']
    show wpAny _ _ (setSeqItemAt l k v >>= _) _ _ s
    refine wpAny_bind (wpAny_setSeqItemAt ho rfl ?_)
    first
      | exact wpAny_bind (wpAny_pure (wpAny_pure ⟨.none, rfl, wpAny_pure hQ⟩))
      | exact wpAny_pure ⟨.none, rfl, wpAny_pure hQ⟩
end
end Mine
end MpQ0x
section MpR0x
open PySem
namespace Mine
theorem slot_md_get : PySem.Slot "method_descriptor" "__get__" "method_descriptor.__get__" :=
  PySem.Slot.of (owner := "method_descriptor") (n := "__get__") (by rw [typeLookup_type, builtinLookup_eq_fast]; kernel_rfl) (by decide +kernel) (by decide +kernel) (by decide +kernel)
    (by first | exact .inl (by decide +kernel) | exact .inr (by decide +kernel)) (by rw [isSubtype_type]; kernel_rfl)
theorem entry_md_get : entryFor table "method_descriptor.__get__" = some Builtin.«method_descriptor.__get__» := entryFor_of_tree (by kernel_rfl)
theorem args_md_get_3 (a b c : Value) : argsOk "method_descriptor.__get__" ⟨[a, b, c], []⟩ := by unfold argsOk; kernel_rfl
theorem md_no_set : typeLookup (.type "method_descriptor") "__set__" = pure none := by rw [typeLookup_type, builtinLookup_eq_fast]; kernel_rfl
theorem md_no_delete : typeLookup (.type "method_descriptor") "__delete__" = pure none := by rw [typeLookup_type, builtinLookup_eq_fast]; kernel_rfl
end Mine
end MpR0x
section MpR1x
open PySem
namespace Mine
theorem kind_append : builtinKind "list.append" = some .method := by decide +kernel
theorem not_module_list : isSubtype (.type "list") (.type "module") = pure false := by rw [isSubtype_type]; kernel_rfl
section
variable {prog : Program} {w : World} {A : Around} {E : Value → Shared → Prop} {s : Shared}
theorem check_bound {l : Addr} {items : Array Value} {n : Nat} {x : Value} {Q : Unit → Shared → Prop} (hl : s.heap.get? l = some (lobj items n)) (h : Q () s) : wpAny (model prog w) A (checkBoundCall "list.append" ⟨[.ref l, x], []⟩) Q E s := by
  obtain ⟨hp, g, d, tk, os⟩ := s
  have hT : (⟨hp, g, d, tk, os⟩ : Shared).TypeIs (.ref l) "list" := ⟨_, hl, rfl⟩
  have f1 := not_module_list
  have f2 := kind_append
  unfold checkBoundCall
  repeat (any_goals (first | assumption | wp_step))
theorem bound_call {b l : Addr} {items : Array Value} {n : Nat} {x : Value} {R : Result → Shared → Prop} (hb : s.heap.get? b = some (appObj l)) (hl : s.heap.get? l = some (lobj items n))
    (h : codeAny (model prog w) A (.builtin "list.append" ⟨[.ref l, x], []⟩) R s) : codeAny (model prog w) A (.call (.ref b) ⟨[x], []⟩) R s := by
  refine codeAny_of_tree ?_
  show wpAny _ _ (callAny (.ref b) _) _ _ _
  unfold callAny
  refine wpAny_bind (wpAny_load hb ?_)
  refine wpAny_bind (check_bound hl ?_)
  exact wpAny_pure ⟨Code.quiet_builtin _ (by decide +kernel), h⟩
theorem append_code {l : Addr} {items : Array Value} {n : Nat} {x : Value} {R : Result → Shared → Prop} (hl : s.heap.get? l = some (lobj items n)) (hsz : items.size ≤ sizeLine)
    (h : R (.ok (.ret .none)) { s with heap := s.heap.update l (Obj.mapSeq fun y => y.push x) }) : codeAny (model prog w) A (.builtin "list.append" ⟨[.ref l, x], []⟩) R s := by
  refine codeAny_builtin F.entry_list_append ?_
  exact list_append l items n x hsz prog w _ _ s ⟨hl, h⟩
theorem keeper_bound {b l : Addr} {Q : Keeper → Shared → Prop} (hb : s.heap.get? b = some (appObj l)) (h : Q .machine s) : wpAny (model prog w) A (keeperOf (.ref b)) Q E s := by
  unfold keeperOf
  exact wpAny_bind (wpAny_load hb (wpAny_pure h))
theorem callWith_bound {b l : Addr} {pos : Pos} {args : List (Bool × Sem Value)} {Q : Value → Shared → Prop} (hplain : args.any (·.1) = false)
    (h : wpAny (model prog w) A (evalArgs (.ref b) true args []) (fun a s₁ => s₁.heap.get? b = some (appObj l) ∧ wpAny (model prog w) A (call (.ref b) a.pos a.kw) Q E s₁) E s) :
    wpAny (model prog w) A (callWith pos (.ref b) [] args []) Q E s := by
  unfold callWith
  refine wpAny_bind (wpAny_holding (wpAny_mono h (fun a s₁ h₁ => wpAny_bind (wpAny_standAt ?_)) fun _ _ x => x))
  simp only [hplain, List.any_nil, Bool.or_false]
  refine wpAny_bind (keeper_bound h₁.1 ?_)
  exact wpAny_bind (wpAny_mono h₁.2 (fun r s₂ hr => wpAny_bind (wpAny_holding (wpAny_point (wpAny_pure hr)))) fun _ _ x => x)
theorem sub_list_list : isSubtype (.type "list") (.type "list") = pure true := by rw [isSubtype_type]; kernel_rfl
theorem meets_md_get (l : Addr) (items : Array Value) (n : Nat) :
    Meets (Builtin.«method_descriptor.__get__» ⟨[.builtin "list.append", .ref l, .type "list"], []⟩) (fun A R s => s.heap.get? l = some (lobj items n) ∧ R (.ok (.ret (.ref s.heap.objs.size))) { s with heap := s.heap.push (appObj l) }) :=
  Meets.of_wp fun prog w A R s hs => by
    obtain ⟨hp, g, d, tk, os⟩ := s
    obtain ⟨hl, h⟩ := hs
    have hT : (⟨hp, g, d, tk, os⟩ : Shared).TypeIs (.ref l) "list" := ⟨_, hl, rfl⟩
    have f1 := sub_list_list
    have f2 : (Manifest.toldItsClass.contains "list.append") = false := by decide +kernel
    unfold Builtin.«method_descriptor.__get__»
    simp only [f2]
    repeat (any_goals (first | assumption | wp_step))
    rw [show (".".intercalate ("list.append".cutAt '.').dropLast) = "list" by decide +kernel]
    rw [f1]
    refine wpAny_pure ?_
    rw [if_neg (by decide)]
    refine wpAny_pure ?_
    show wpAny _ _ (newFields "builtin_function_or_method" [.builtin "list.append", .ref l] >>= fun v => ret v) _ _ _
    exact wpAny_bind (wpAny_newObj_type (wpAny_pure ⟨_, rfl, h⟩))
theorem append_name : (["__module__", "__name__", "__qualname__", "__doc__", "__annotations__"] : List Str).contains "append" = false := by decide +kernel
theorem meets_getattribute_append (l : Addr) (items : Array Value) (n : Nat) (u : Tok) :
    Meets (Builtin.«object.__getattribute__» ⟨[.ref l, .str "append" u], []⟩) (fun A R s => s.heap.get? l = some (lobj items n) ∧ R (.ok (.ret (.ref s.heap.objs.size))) { s with heap := s.heap.push (appObj l) }) :=
  Meets.of_wp fun prog w A R s hs => by
    obtain ⟨hp, g, d, tk, os⟩ := s
    obtain ⟨hl, h⟩ := hs
    have hT : (⟨hp, g, d, tk, os⟩ : Shared).TypeIs (.ref l) "list" := ⟨_, hl, rfl⟩
    have hM : (⟨hp, g, d, tk, os⟩ : Shared).TypeIs (.builtin "list.append") "method_descriptor" := F.type_list_append
    have f1 := F.slot_list_append.lookup
    have f2 := slot_md_get.lookup
    have f3 := md_no_set
    have f4 := md_no_delete
    have f5 := append_name
    unfold Builtin.«object.__getattribute__»
    repeat (any_goals (first | assumption | ((with_reducible show wpAny _ _ (call (Value.builtin "method_descriptor.__get__") _ _) _ _ _); refine call_meets slot_md_get hM entry_md_get (args_md_get_3 _ _ _) (meets_md_get l items n) ⟨hl, ?_⟩) | wp_step))
    exact wpAny_pure ⟨_, rfl, h⟩
theorem getAttr_append {l : Addr} {items : Array Value} {n : Nat} {Q : Value → Shared → Prop} (hl : s.heap.get? l = some (lobj items n)) (h : Q (.ref s.heap.objs.size) { s with heap := s.heap.push (appObj l), toks := s.toks + 1 }) :
    wpAny (model prog w) A (getAttr (.ref l) "append" true) Q E s := by
  obtain ⟨hp, g, d, tk, os⟩ := s
  have hT : ∀ tk', (⟨hp, g, d, tk', os⟩ : Shared).TypeIs (.ref l) "list" := fun _ => ⟨_, hl, rfl⟩
  have f3 := F.slot_list_getattribute.lookup
  have f4 := F.slot_list_getattribute.bind (.ref l)
  have f5 := am_list_getattr_none
  unfold getAttr getAttrBy
  repeat (any_goals (first | assumption | exact hT _ | ((with_reducible show wpAny _ _ (call (Value.builtin "list.__getattribute__") _ _) _ _ _); refine call_meets F.slot_list_getattribute (hT _) am_entry_list_getattribute (F.args_list_getattribute_2 _ _) (meets_getattribute_append l items n _) ⟨hl, ?_⟩) | wp_step))
  show wpAny _ _ (handedOut (.ref _)) _ _ _
  exact wpAny_pure h
end
end Mine
end MpR1x
section MpY0x
open PySem
namespace Mine
theorem sub_key_lookup : isSubtype (.type "KeyError") (.type "LookupError") = pure true := by rw [isSubtype_type]; kernel_rfl
section
variable {prog : Program} {w : World} {A : Around} {E : Value → Shared → Prop} {s : Shared}
theorem table_hit {d : Addr} {f : Int → Option Value} {c : Nat} {t : PySem.Str} {u : Tok} {Q : Builtin.Str.Mapped → Shared → Prop} (hm : s.heap.MapOf (intKind prog w) d f) (hv : f (c : Int) = some (.str t u)) (h : ∀ k, Q (.text t) { s with toks := k }) :
    wpAny (model prog w) A (Builtin.Str.tableLookup (.ref d) c) Q E s := by
  unfold Builtin.Str.tableLookup
  refine wpAny_bind (wpAny_attempt (wpAny_bind (wpAny_mkInt (wpAny_getItem_of (knd := intKind prog w) (k := (c : Int)) (v := .str t u) (by simp [intKind, Value.isInt]) hm hv ?_))))
  obtain ⟨hh, g, dd, tk, os⟩ := s
  repeat (any_goals (first | assumption | wp_step))
  exact h _
theorem table_miss {d : Addr} {f : Int → Option Value} {c : Nat} {Q : Builtin.Str.Mapped → Shared → Prop} (hh : A.handled = none) (hm : s.heap.MapOf (intKind prog w) d f) (hd : (d == sysModules) = false) (hv : f (c : Int) = none)
    (h : ∀ h' k, (∀ b o, s.heap.get? b = some o → h'.get? b = some o) → Q .keep { s with heap := h', toks := k }) :
    wpAny (model prog w) A (Builtin.Str.tableLookup (.ref d) c) Q E s := by
  unfold Builtin.Str.tableLookup
  refine wpAny_bind (wpAny_attempt (wpAny_bind (wpAny_mkInt (wpAny_getItem_missing_of (knd := intKind prog w) (k := (c : Int)) (by simp [intKind, Value.isInt]) hd hh hm hv fun h' e ne => ?_))))
  obtain ⟨ob, t, g1, g2, g3⟩ := ne.there
  show wpAny _ _ (do if ← isInstance (.ref e) (.type "LookupError") then rule "str.translate.not-in-table"; pure Builtin.Str.Mapped.keep else throw (.ref e)) _ _ _
  refine wpAny_bind (wpAny_isInstance (T := "KeyError") (b := true) ⟨ob, g1, g2⟩ sub_key_lookup ?_)
  rw [if_pos rfl]
  exact wpAny_bind (wpAny_rule (wpAny_pure (h _ _ ne.keeps)))
set_option maxHeartbeats 2000000 in
theorem translate_hit {d : Addr} {f : Int → Option Value} {c x : Nat} {t u : Tok} (hc : c < 128) :
    MeetsIn prog w (Builtin.«str.translate» ⟨[.str ⟨#[c]⟩ t, .ref d], []⟩) (fun A R s => (s.heap.MapOf (intKind prog w) d f ∧ f (c : Int) = some (.str ⟨#[92, x]⟩ u)) ∧ ∀ k k', R (.ok (.ret (.str ⟨#[92, x]⟩ k))) { s with toks := k' }) :=
  .of_wp fun A R s hs => by
    obtain ⟨hh, g, dd, tk, os⟩ := s
    obtain ⟨⟨hm, hv⟩, h⟩ := hs
    have hc' : decide (c < 128) = true := by simpa using hc
    repeat (any_goals (first | assumption | ((with_reducible show wpAny _ _ (Builtin.Str.tableLookup _ _) _ _ _); refine table_hit hm hv fun k => ?_) | wp_step))
    exact ⟨_, rfl, h _ _⟩
set_option maxHeartbeats 2000000 in
theorem translate_miss {d : Addr} {f : Int → Option Value} {c : Nat} {t : Tok} (hc : c < 128) (hd : (d == sysModules) = false) :
    MeetsIn prog w (Builtin.«str.translate» ⟨[.str ⟨#[c]⟩ t, .ref d], []⟩) (fun A R s => (s.heap.MapOf (intKind prog w) d f ∧ f (c : Int) = none ∧ A.handled = none) ∧ ∀ h' k k', (∀ b o, s.heap.get? b = some o → h'.get? b = some o) → R (.ok (.ret (.str ⟨#[c]⟩ k))) { s with heap := h', toks := k' }) :=
  .of_wp fun A R s hs => by
    obtain ⟨hh, g, dd, tk, os⟩ := s
    obtain ⟨⟨hm, hv, hA⟩, h⟩ := hs
    have hc' : decide (c < 128) = true := by simpa using hc
    repeat (any_goals (first | assumption | ((with_reducible show wpAny _ _ (Builtin.Str.tableLookup _ _) _ _ _); refine table_miss hA hm hd hv fun h' k hk => ?_) | wp_step))
    exact ⟨_, rfl, h _ _ _ hk⟩
end
end Mine
end MpY0x
section MpZ0x
open PySem
namespace Mine
open PySem.Builtin PySem.Builtin.Re
noncomputable def reCode : Array Nat := #[14, 14, 4, 1, 1, 9, 0, 64, 0, 1342177280, 0, 0, 0, 0, 0, 17, 0, 13, 11, 9, 0, 64, 0, 1342177280, 0, 0, 0, 0, 0, 17, 1, 1]
section
variable {prog : Program} {w : World} {A : Around} {E : Value → Shared → Prop} {s : Shared}
end
end Mine
end MpZ0x
section MpZ1x
open PySem
namespace Mine
open PySem.Builtin PySem.Builtin.Re
set_option genInjectivity false in
structure PatAt (h : Heap) (P C : Addr) (codes : Array Value) : Prop where
  pat : ∃ x t u v w y, h.get? P = some { cls := .type "re.Pattern", data := .fields #[.str x t, .int 32 u, .int 1 v, .none, .none, .ref C, .int 0 w] } ∧ y = (0 : Nat)
  code : ∃ n, h.get? C = some (tobj codes n)
  is : (codes.map reRawOf).map Int.toNat = reCode
theorem PatAt.keeps {h h' : Heap} {P C : Addr} {codes : Array Value} (x : PatAt h P C codes) (hk : ∀ b o, h.get? b = some o → h'.get? b = some o) : PatAt h' P C codes :=
  ⟨let ⟨a, t, u, v, w, y, e, r⟩ := x.pat; ⟨a, t, u, v, w, y, hk _ _ e, r⟩, let ⟨n, e⟩ := x.code; ⟨n, hk _ _ e⟩, x.is⟩
section
variable {prog : Program} {w : World} {A : Around} {E : Value → Shared → Prop} {s : Shared} {P C : Addr} {codes : Array Value} {a : Array Nat} {u : Tok}
end
end Mine
end MpZ1x
section MpAx
open PySem
namespace Mine
inductive D where
  | none
  | bool (b : Bool)
  | int (i : Int)
  | str (l : List Nat)
  | list (l : List D)
  | tup (l : List D)
  | tok (k : Nat)
  | ty (n : String)
  deriving Inhabited
inductive R where
  | val (d : D)
  | own (l : List D)
  | bor (l : List D)
noncomputable def R.ds : R → D
  | .val d => d
  | .own l => .list l
  | .bor l => .list l
noncomputable def R.fz : R → Option D
  | .val d => some d
  | .own l => some (.list l)
  | .bor _ => Option.none
inductive Slot where
  | unset
  | val (d : D)
  | own (l : List D)
  | app (j : Nat)
inductive Op where
  | add | sub | mul | fdiv | mod | pow | neg
  | eq | ne | lt | le | gt | ge | is_ | isnot | in_ | notin
  | index | slice | slice3 | len | abs | sum
  | tyOf | isInst | isSub
  | rfind | find4 | startswith | endswith | rstrip | lstrip | replace | join | split | translate | resub | count | strIndex
  | listOf | tupleOf | sorted | min | max | fmt | lindex
  deriving DecidableEq
set_option genCtorIdx false in
set_option genInjectivity false in
inductive X where
  | const (d : D)
  | var (i : Nat)
  | op (o : Op) (a : X)
  | nil
  | cons (a r : X)
  | star (a : X)
  | and (a b : X)
  | or (a b : X)
  | not (a : X)
  | ite (c t e : X)
  | call (f : Nat) (a : X)
  | tup (a : X)
  | list (a : X)
  | comp (i : Nat) (it cond elt : X)
  | comp2 (i j : Nat) (it cond elt : X)
  | comp3 (i : Nat) (it : X) (j : Nat) (jt elt : X)
  | mapF (f : Nat) (a : X)
  | seqI (a : X)
  | rangeI (a : X)
  | enumI (a : X)
  | setI (i : Nat) (it elt : X)
set_option genCtorIdx false in
set_option genInjectivity false in
inductive S where
  | skip
  | seq (a b : S)
  | fz (i : Nat)
  | assign (i : Nat) (x : X)
  | assignO (i : Nat) (x : X)
  | assign2 (i j : Nat) (x : X)
  | assign3 (i j k : Nat) (x : X)
  | assign1 (i : Nat) (x : X)
  | alias (i j : Nat)
  | append (i : Nat) (x : X)
  | appendVia (i j : Nat) (x : X)
  | aug (i : Nat) (x : X)
  | extend (i : Nat) (x : X)
  | pop (i : Nat)
  | setItem (i : Nat) (k x : X)
  | augItem (i : Nat) (k x : X)
  | delItem (i : Nat) (k : X)
  | ite (c : X) (a b : S)
  | while (c : X) (b : S)
  | forE (i : Nat) (it : X) (b : S)
  | forE2 (i j : Nat) (it : X) (b : S)
  | forN (is : List Nat) (it : X) (b : S)
  | ret (x : X)
  | brk
  | cont
  | assert (c : X)
  | try_ (b : S)
  | tryV (f : Nat) (a : X) (b : S)
inductive Out where
  | next
  | brk
  | cont
  | ret (d : D)
noncomputable def lim : Nat := 1000000
noncomputable def tokC : Nat → List Nat
  | 0 => [42]
  | _ => [63]
mutual
noncomputable def D.toPy : D → PyData
  | .none => .none
  | .bool b => .bool b
  | .int i => .int i
  | .str l => .str ⟨l.toArray⟩
  | .list l => .list (D.toPys l)
  | .tup l => .tuple (D.toPys l)
  | .tok k => .list [.str ⟨(tokC k).toArray⟩]
  | .ty _ => .none
noncomputable def D.toPys : List D → List PyData
  | [] => []
  | d :: r => d.toPy :: D.toPys r
end
mutual
noncomputable def D.ok : Nat → D → Bool
  | 0, _ => false
  | n + 1, .list l => D.oks n l
  | n + 1, .tup l => D.oks n l
  | _ + 1, .ty _ => false
  | n + 1, .tok _ => decide (0 < n)
  | _ + 1, _ => true
noncomputable def D.oks : Nat → List D → Bool
  | _, [] => true
  | n, d :: r => d.ok n && D.oks n r
end
noncomputable def D.truth : D → Option Bool
  | .none => some false
  | .bool b => some b
  | .int i => some (decide (i ≠ 0))
  | .str l => some (!l.isEmpty)
  | .list l => some (!l.isEmpty)
  | .tup l => some (!l.isEmpty)
  | _ => Option.none
noncomputable def eqD : D → D → Option Bool
  | .str a, .str b => some (decide (a = b))
  | .int a, .int b => some (decide (a = b))
  | a, b => if a.ok 9 && b.ok 9 then some (PyData.eqv a.toPy b.toPy) else Option.none
noncomputable def inD (d : D) : D → Option Bool
  | .list l => if D.oks 8 l && d.ok 9 then some ((D.toPys l).any fun y => PyData.eqv y d.toPy) else Option.none
  | .tup l => if D.oks 8 l && d.ok 9 then some ((D.toPys l).any fun y => PyData.eqv y d.toPy) else Option.none
  | .str b => match d with
    | .str a => some (Txt.contains ⟨b.toArray⟩ ⟨a.toArray⟩)
    | _ => Option.none
  | _ => Option.none
noncomputable def isD : D → D → Option Bool
  | .tok i, .tok j => some (decide (i = j))
  | .tok _, .str _ => some false
  | .str _, .tok _ => some false
  | .tok _, .none => some false
  | .none, .tok _ => some false
  | .none, .none => some true
  | .str _, .none => some false
  | .list _, .none => some false
  | .tup _, .none => some false
  | .bool _, .none => some false
  | .int _, .none => some false
  | .ty a, .ty b => some (decide (a = b))
  | _, _ => Option.none
noncomputable def ltL (a b : List Nat) : Bool := decide (a < b)
noncomputable def place (i : Int) (n : Nat) : Option Nat :=
  if 0 ≤ i then (if i < n then some i.toNat else Option.none) else (if 0 ≤ i + n then some (i + n).toNat else Option.none)
noncomputable def small (i : Int) : Bool := decide (-1000000000 ≤ i) && decide (i ≤ 1000000000)
noncomputable def clip (i : Int) (n : Nat) : Nat := if i < 0 then (i + n).toNat else if i < n then i.toNat else n
noncomputable def bound (d : D) (dflt n : Nat) : Option Nat := match d with
  | .none => some dflt
  | .int i => if small i then some (clip i n) else Option.none
  | _ => Option.none
noncomputable def cut {α : Type} (l : List α) (lo hi : Nat) : List α := (l.drop lo).take (hi - lo)
noncomputable def pick {α : Type} (l : List α) (lo hi st : Option Int) : List α :=
  (sliceRange (sliceBounds lo hi st l.length).1 (sliceBounds lo hi st l.length).2.1 (sliceBounds lo hi st l.length).2.2).filterMap (l[·]?)
noncomputable def partD : D → Option (Option Int)
  | .none => some Option.none
  | .int i => if small i then some (some i) else Option.none
  | _ => Option.none
noncomputable def toInts : List D → Option (List Int)
  | [] => some []
  | .int i :: r => (toInts r).map (i :: ·)
  | _ :: _ => Option.none
noncomputable def toStrs : List D → Option (List (List Nat))
  | [] => some []
  | .str s :: r => (toStrs r).map (s :: ·)
  | _ :: _ => Option.none
noncomputable def strD (l : List Nat) : Option R := if l.length ≤ lim then some (.val (.str l)) else Option.none
noncomputable def opAdd : List D → Option R
  | [.int a, .int b] => some (.val (.int (a + b)))
  | [.str a, .str b] => if a.length + b.length ≤ lim then some (.val (.str (a ++ b))) else Option.none
  | [.list a, .list b] => if a.length + b.length ≤ lim then some (.own (a ++ b)) else Option.none
  | _ => Option.none
noncomputable def opSub : List D → Option R
  | [.int a, .int b] => some (.val (.int (a - b)))
  | _ => Option.none
noncomputable def rep {α : Type} (l : List α) (n : Int) : List α := (List.replicate n.toNat l).flatten
noncomputable def opMul : List D → Option R
  | [.int a, .int b] => if small a || small b then some (.val (.int (a * b))) else Option.none
  | [.str a, .int b] => if small b && decide (a.length * b.toNat ≤ lim) then some (.val (.str (rep a b))) else Option.none
  | [.list a, .int b] => if small b && decide (a.length * b.toNat ≤ lim) then some (.own (rep a b)) else Option.none
  | _ => Option.none
noncomputable def opDiv : List D → Option R
  | [.int a, .int b] => if b = 0 then Option.none else some (.val (.int (Int.fdiv a b)))
  | _ => Option.none
noncomputable def opMod : List D → Option R
  | [.int a, .int b] => if b = 0 then Option.none else some (.val (.int (Int.fmod a b)))
  | _ => Option.none
noncomputable def opBool (f : D → D → Option Bool) : List D → Option R
  | [a, b] => (f a b).map fun x => .val (.bool x)
  | _ => Option.none
noncomputable def opCmp (f : Int → Int → Bool) (g : List Nat → List Nat → Bool) : List D → Option R
  | [.int a, .int b] => some (.val (.bool (f a b)))
  | [.str a, .str b] => some (.val (.bool (g a b)))
  | _ => Option.none
noncomputable def opIndex : List D → Option R
  | [.str l, .int i] => if small i then (match place i l.length with | some k => (l[k]?).map fun c => .val (.str [c]) | Option.none => Option.none) else Option.none
  | [.list l, .int i] => if small i then (match place i l.length with | some k => (l[k]?).map .val | Option.none => Option.none) else Option.none
  | [.tup l, .int i] => if small i then (match place i l.length with | some k => (l[k]?).map .val | Option.none => Option.none) else Option.none
  | _ => Option.none
noncomputable def opSlice : List D → Option R
  | [.str l, a, b] => match bound a 0 l.length, bound b l.length l.length with
    | some lo, some hi => some (.val (.str (cut l lo hi)))
    | _, _ => Option.none
  | [.list l, a, b] => match bound a 0 l.length, bound b l.length l.length with
    | some lo, some hi => some (.own (cut l lo hi))
    | _, _ => Option.none
  | _ => Option.none
noncomputable def opSlice3 : List D → Option R
  | [.list l, a, b, .int n] => match partD a, partD b with
    | some lo, some hi => if n ≠ 0 ∧ small n then some (.own (pick l lo hi (some n))) else Option.none
    | _, _ => Option.none
  | _ => Option.none
noncomputable def opLen : List D → Option R
  | [.str l] => some (.val (.int l.length))
  | [.list l] => some (.val (.int l.length))
  | [.tup l] => some (.val (.int l.length))
  | _ => Option.none
noncomputable def opAbs : List D → Option R
  | [.int i] => some (.val (.int i.natAbs))
  | _ => Option.none
noncomputable def opSum : List D → Option R
  | [.list l] => (toInts l).map fun is => .val (.int is.sum)
  | _ => Option.none
noncomputable def opNeg : List D → Option R
  | [.int i] => some (.val (.int (-i)))
  | _ => Option.none
noncomputable def tyD : D → Option String
  | .str _ => some "str"
  | .int _ => some "int"
  | .bool _ => some "bool"
  | .list _ => some "list"
  | .tup _ => some "tuple"
  | .tok _ => some "list"
  | _ => Option.none
noncomputable def opTyOf : List D → Option R
  | [d] => (tyD d).map fun n => .val (.ty n)
  | _ => Option.none
noncomputable def opIsInst : List D → Option R
  | [.str _, .ty n] => if n = "str" then some (.val (.bool true)) else if n = "bytes" then some (.val (.bool false)) else Option.none
  | [.str _, .tup [.ty a, .ty b]] => if a = "list" ∧ b = "tuple" then some (.val (.bool false)) else Option.none
  | [.list _, .tup [.ty a, .ty b]] => if a = "list" ∧ b = "tuple" then some (.val (.bool true)) else Option.none
  | _ => Option.none
noncomputable def opIsSub : List D → Option R
  | [.ty n, .tup [.ty a, .ty b]] => if n = "str" ∧ a = "str" ∧ b = "bytes" then some (.val (.bool true)) else Option.none
  | _ => Option.none
noncomputable def opStr2 (f : PySem.Str → PySem.Str → R) : List D → Option R
  | [.str a, .str b] => some (f ⟨a.toArray⟩ ⟨b.toArray⟩)
  | _ => Option.none
noncomputable def opFind4 : List D → Option R
  | [.str a, .str b, .int i, .int j] => if small i ∧ small j then
      some (.val (.int (match Builtin.Str.occurrences ⟨a.toArray⟩ ⟨b.toArray⟩ (fromIndex a.length i) (min (fromIndex a.length j) a.length) 1 with | k :: _ => (k : Int) | [] => -1))) else Option.none
  | _ => Option.none
noncomputable def opReplace : List D → Option R
  | [.str a, .str b, .str _] => if (Builtin.Str.occurrences ⟨a.toArray⟩ ⟨b.toArray⟩ 0 a.length (a.length + 1)).isEmpty then some (.val (.str a)) else Option.none
  | _ => Option.none
noncomputable def joinL (s : List Nat) : List (List Nat) → List Nat
  | [] => []
  | [a] => a
  | a :: r => a ++ s ++ joinL s r
noncomputable def opJoin : List D → Option R
  | [.str s, .list l] => match toStrs l with
    | some ls => if (joinL s ls).length ≤ lim then some (.val (.str (joinL s ls))) else Option.none
    | Option.none => Option.none
  | _ => Option.none
noncomputable def opSplit : List D → Option R
  | [.str a, .str b] => if b.length = 1 ∧ a.length + 2 ≤ lim then some (.own ((Txt.split ⟨a.toArray⟩ ⟨b.toArray⟩).map fun x => .str x.cps.toList)) else Option.none
  | _ => Option.none
noncomputable def special : List Nat := [40, 41, 91, 93, 123, 125, 63, 42, 43, 45, 124, 94, 36, 92, 46, 38, 126, 35, 32, 9, 10, 13, 11, 12]
noncomputable def opTranslate : List D → Option R
  | [.str [c]] => if c < 128 then some (.val (.str (if special.contains c then [92, c] else [c]))) else Option.none
  | _ => Option.none
noncomputable def noHit : List (List Nat) := [[], [33], [46, 45, 97], [33, 97], [97, 45, 99], [93], [33, 33], [97, 47, 98], [97, 45, 98], [91], [42], [63], [97], [98], [97, 98], [33, 97, 98], [33, 98], [33, 97, 45, 98], [46], [33, 46]]
noncomputable def opResub : List D → Option R
  | [.str a] => if noHit.contains a then some (.val (.str a)) else if a = [124, 38, 126] then some (.val (.str [92, 124, 92, 38, 92, 126])) else Option.none
  | _ => Option.none
noncomputable def opListOf : List D → Option R
  | [.list l] => some (.own l)
  | _ => Option.none
noncomputable def opTupleOf : List D → Option R
  | [.list l] => some (.val (.tup l))
  | _ => Option.none
noncomputable def ltSs : List (List Nat) → List (List Nat) → Bool
  | [], [] => false
  | [], _ :: _ => true
  | _ :: _, [] => false
  | a :: as, b :: bs => if a = b then ltSs as bs else ltL a b
noncomputable def ltD : D → D → Option Bool
  | .str a, .str b => some (ltL a b)
  | .list a, .list b => match toStrs a, toStrs b with
    | some x, some y => some (ltSs x y)
    | _, _ => Option.none
  | _, _ => Option.none
noncomputable def gtD (a b : D) : Option Bool := ltD b a
noncomputable def bestGo (better : D → D → Option Bool) : D → List D → Option D
  | b, [] => some b
  | b, d :: r => match better d b with
    | some true => bestGo better d r
    | some false => bestGo better b r
    | Option.none => Option.none
noncomputable def opBest (better : D → D → Option Bool) : List D → Option R
  | [.list (d :: r)] => (bestGo better d r).map .val
  | [.tup (d :: r)] => (bestGo better d r).map .val
  | _ => Option.none
noncomputable def opPow : List D → Option R
  | [.int a, .int b] => if 0 ≤ b ∧ b ≤ 64 ∧ 0 ≤ a ∧ a ≤ 16 then some (.val (.int (a ^ b.toNat))) else Option.none
  | _ => Option.none
noncomputable def opLIndex : List D → Option R
  | [.list l, .str s] => match toStrs l with
    | some ls => if ls.contains s then some (.val (.int (ls.idxOf s))) else Option.none
    | Option.none => Option.none
  | _ => Option.none
noncomputable def opCount : List D → Option R
  | [.list l, .str s] => match toStrs l with
    | some ls => some (.val (.int (ls.count s)))
    | Option.none => Option.none
  | _ => Option.none
noncomputable def opSIndex : List D → Option R
  | [.str a, .str b] => match Builtin.Str.occurrences ⟨a.toArray⟩ ⟨b.toArray⟩ 0 a.length 1 with
    | i :: _ => some (.val (.int (i : Nat)))
    | [] => Option.none
  | _ => Option.none
noncomputable def opFmt : List D → Option R
  | [.str a, .str b, .str c] => strD (a ++ b ++ c)
  | _ => Option.none
noncomputable def opF : Op → List D → Option R
  | .add, ds => opAdd ds
  | .sub, ds => opSub ds
  | .mul, ds => opMul ds
  | .fdiv, ds => opDiv ds
  | .mod, ds => opMod ds
  | .neg, ds => opNeg ds
  | .eq, ds => opBool eqD ds
  | .ne, ds => opBool (fun a b => (eqD a b).map (!·)) ds
  | .lt, ds => opCmp (fun a b => decide (a < b)) ltL ds
  | .le, ds => opCmp (fun a b => decide (a ≤ b)) (fun a b => !ltL b a) ds
  | .gt, ds => opCmp (fun a b => decide (b < a)) (fun a b => ltL b a) ds
  | .ge, ds => opCmp (fun a b => decide (b ≤ a)) (fun a b => !ltL a b) ds
  | .is_, ds => opBool isD ds
  | .isnot, ds => opBool (fun a b => (isD a b).map (!·)) ds
  | .in_, ds => opBool inD ds
  | .notin, ds => opBool (fun a b => (inD a b).map (!·)) ds
  | .index, ds => opIndex ds
  | .slice, ds => opSlice ds
  | .slice3, ds => opSlice3 ds
  | .len, ds => opLen ds
  | .abs, ds => opAbs ds
  | .sum, ds => opSum ds
  | .tyOf, ds => opTyOf ds
  | .isInst, ds => opIsInst ds
  | .isSub, ds => opIsSub ds
  | .rfind, ds => opStr2 (fun a b => .val (.int (Txt.rfind a b))) ds
  | .find4, ds => opFind4 ds
  | .startswith, ds => opStr2 (fun a b => .val (.bool (Txt.startswith a b))) ds
  | .endswith, ds => opStr2 (fun a b => .val (.bool (Txt.endswith a b))) ds
  | .rstrip, ds => opStr2 (fun a b => .val (.str (Txt.rstripChars a b).cps.toList)) ds
  | .lstrip, ds => opStr2 (fun a b => .val (.str (Txt.lstripChars a b).cps.toList)) ds
  | .replace, ds => opReplace ds
  | .join, ds => opJoin ds
  | .split, ds => opSplit ds
  | .translate, ds => opTranslate ds
  | .resub, ds => opResub ds
  | .listOf, ds => opListOf ds
  | .tupleOf, ds => opTupleOf ds
  | .fmt, ds => opFmt ds
  | .min, ds => opBest ltD ds
  | .max, ds => opBest gtD ds
  | .pow, ds => opPow ds
  | .lindex, ds => opLIndex ds
  | .count, ds => opCount ds
  | .strIndex, ds => opSIndex ds
  | _, _ => Option.none
noncomputable def fzAll : List R → Option (List D)
  | [] => some []
  | r :: rs => match r.fz, fzAll rs with
    | some d, some ds => some (d :: ds)
    | _, _ => Option.none
noncomputable def truthR : Option (List R) → Option Bool
  | some [r] => r.ds.truth
  | _ => Option.none
noncomputable def compGo (f : D → Option (Option D)) : List D → Option (List D)
  | [] => some []
  | d :: r => match f d with
    | Option.none => Option.none
    | some Option.none => compGo f r
    | some (some y) => match compGo f r with
      | some ys => some (y :: ys)
      | Option.none => Option.none
noncomputable def turnD (c e : Option (List R)) : Option (Option D) := match truthR c with
  | some true => (match e with
    | some [r] => r.fz.map some
    | _ => Option.none)
  | some false => some Option.none
  | Option.none => Option.none
noncomputable def upTo (n : Nat) (a b : Int) : List Int := (List.range n).map fun (k : Nat) => a + b * (k : Int)
noncomputable def rangeL (a b : Int) : List D := (upTo (b - a).toNat a 1).map .int
noncomputable def rangeDown (a b : Int) : List D := (upTo (a - b).toNat a (-1)).map .int
noncomputable def opRange : List D → Option (List D)
  | [.int n] => if small n && decide (n ≤ 1000000) then some (rangeL 0 n) else Option.none
  | [.int a, .int n] => if small a && small n && decide (n - a ≤ 1000000) then some (rangeL a n) else Option.none
  | [.int a, .int n, .int s] => if s = -1 ∧ small a ∧ small n ∧ a - n ≤ 1000000 then some (rangeDown a n) else Option.none
  | _ => Option.none
noncomputable def itemsOf : D → Option (List D)
  | .list l => some l
  | .tup l => some l
  | .str l => some (l.map fun c => .str [c])
  | _ => Option.none
noncomputable def enumOf : D → Option (List D)
  | .list l => some l
  | .str l => some (l.map fun c => .str [c])
  | _ => Option.none
noncomputable def enumL (k : Int) : List D → List D
  | [] => []
  | d :: r => .tup [.int k, d] :: enumL (k + 1) r
noncomputable def allSome {α : Type} : List (Option α) → Option (List α)
  | [] => some []
  | some a :: r => (allSome r).map (a :: ·)
  | Option.none :: _ => Option.none
section
variable (cf : Nat → List D → Option D)
noncomputable def ev : X → List Slot → Option (List R)
  | .const d, _ => some [.val d]
  | .var i, ρ => match ρ[i]? with
    | some (.val d) => some [.val d]
    | some (.own l) => some [.bor l]
    | _ => Option.none
  | .op o a, ρ => match ev a ρ with
    | some rs => (opF o (rs.map R.ds)).map fun r => [r]
    | Option.none => Option.none
  | .nil, _ => some []
  | .cons a r, ρ => match ev a ρ with
    | some [x] => (ev r ρ).map fun xs => x :: xs
    | _ => Option.none
  | .star a, ρ => match ev a ρ with
    | some [x] => (match x.fz with
      | some (.list l) => some (l.map .val)
      | some (.tup l) => some (l.map .val)
      | _ => Option.none)
    | _ => Option.none
  | .and a b, ρ => match ev a ρ with
    | some [x] => (match x.ds.truth with
      | some true => ev b ρ
      | some false => some [x]
      | Option.none => Option.none)
    | _ => Option.none
  | .or a b, ρ => match ev a ρ with
    | some [x] => (match x.ds.truth with
      | some false => ev b ρ
      | some true => some [x]
      | Option.none => Option.none)
    | _ => Option.none
  | .not a, ρ => match ev a ρ with
    | some [x] => x.ds.truth.map fun b => [.val (.bool (!b))]
    | _ => Option.none
  | .ite c t e, ρ => match truthR (ev c ρ) with
    | some true => ev t ρ
    | some false => ev e ρ
    | Option.none => Option.none
  | .call f a, ρ => match ev a ρ with
    | some rs => (match fzAll rs with
      | some ds => (cf f ds).map fun d => [.val d]
      | Option.none => Option.none)
    | Option.none => Option.none
  | .tup a, ρ => match ev a ρ with
    | some rs => (match fzAll rs with
      | some ds => if ds.length ≤ lim then some [.val (.tup ds)] else Option.none
      | Option.none => Option.none)
    | Option.none => Option.none
  | .list a, ρ => match ev a ρ with
    | some rs => (match fzAll rs with
      | some ds => if ds.length ≤ lim then some [.own ds] else Option.none
      | Option.none => Option.none)
    | Option.none => Option.none
  | .comp i it c e, ρ => match ev it ρ with
    | some [.val (.list items)] => (compGo (fun d => turnD (ev c (ρ.set i (.val d))) (ev e (ρ.set i (.val d)))) items).map fun l => [.own l]
    | _ => Option.none
  | .comp2 i j it c e, ρ => match ev it ρ with
    | some [.val (.list items)] => (compGo (fun d => match d with
        | .tup [a, b] => turnD (ev c ((ρ.set i (.val a)).set j (.val b))) (ev e ((ρ.set i (.val a)).set j (.val b)))
        | _ => Option.none) items).map fun l => [.own l]
    | _ => Option.none
  | .comp3 i it j jt e, ρ => match ev it ρ with
    | some [.val (.list items)] => (match compGo (fun d => match ev jt (ρ.set i (.val d)) with
        | some [.val (.list its)] => (compGo (fun d' => turnD (some [.val (.bool true)]) (ev e ((ρ.set i (.val d)).set j (.val d')))) its).map fun l => some (.list l)
        | _ => Option.none) items with
      | some ls => (match allSome (ls.map fun d => match d with | .list l => some l | _ => Option.none) with
        | some lls => if lls.flatten.length ≤ lim then some [.own lls.flatten] else Option.none
        | Option.none => Option.none)
      | Option.none => Option.none)
    | _ => Option.none
  | .mapF f a, ρ => match ev a ρ with
    | some [x] => (match x.fz.bind itemsOf with
      | some items => (allSome (items.map fun d => cf f [d])).map fun l => [.val (.tup l)]
      | Option.none => Option.none)
    | _ => Option.none
  | .seqI a, ρ => match ev a ρ with
    | some [x] => (match x.fz with
      | some d => (itemsOf d).map fun l => [.val (.list l)]
      | Option.none => Option.none)
    | _ => Option.none
  | .rangeI a, ρ => match ev a ρ with
    | some rs => (opRange (rs.map R.ds)).map fun l => [.val (.list l)]
    | Option.none => Option.none
  | .enumI a, ρ => match ev a ρ with
    | some [x] => (match x.fz with
      | some d => (enumOf d).map fun l => [.val (.list (enumL 0 l))]
      | Option.none => Option.none)
    | _ => Option.none
  | .setI i it e, ρ => match ev it ρ with
    | some [.val (.list items)] => (match compGo (fun d => turnD (some [.val (.bool true)]) (ev e (ρ.set i (.val d)))) items with
      | some (.bool b :: r) => if r.all (fun d => match d with | .bool b' => b' == b | _ => false) then some [.val (.bool b)] else Option.none
      | _ => Option.none)
    | _ => Option.none
noncomputable def ev1 (x : X) (ρ : List Slot) : Option D := match ev cf x ρ with
  | some [r] => r.fz
  | _ => Option.none
noncomputable def evT (x : X) (ρ : List Slot) : Option Bool := truthR (ev cf x ρ)
noncomputable def evI (x : X) (ρ : List Slot) : Option (List D) := match ev cf x ρ with
  | some [.val (.list l)] => some l
  | _ => Option.none
noncomputable def whileGo (c : List Slot → Option Bool) (b : List Slot → Option (List Slot × Out)) : Nat → List Slot → Option (List Slot × Out)
  | 0, _ => Option.none
  | n + 1, ρ => match c ρ with
    | Option.none => Option.none
    | some false => some (ρ, .next)
    | some true => match b ρ with
      | Option.none => Option.none
      | some (ρ', .next) => whileGo c b n ρ'
      | some (ρ', .cont) => whileGo c b n ρ'
      | some (ρ', .brk) => some (ρ', .next)
      | some (ρ', .ret d) => some (ρ', .ret d)
noncomputable def forGo (st : D → List Slot → Option (List Slot)) (b : List Slot → Option (List Slot × Out)) : List D → List Slot → Option (List Slot × Out)
  | [], ρ => some (ρ, .next)
  | d :: r, ρ => match st d ρ with
    | Option.none => Option.none
    | some ρ₁ => match b ρ₁ with
      | Option.none => Option.none
      | some (ρ', .next) => forGo st b r ρ'
      | some (ρ', .cont) => forGo st b r ρ'
      | some (ρ', .brk) => some (ρ', .next)
      | some (ρ', .ret d) => some (ρ', .ret d)
noncomputable def put1 (i : Nat) (d : D) (ρ : List Slot) : Option (List Slot) := some (ρ.set i (.val d))
noncomputable def put2 (i j : Nat) (d : D) (ρ : List Slot) : Option (List Slot) := match d with
  | .tup [a, b] => some ((ρ.set i (.val a)).set j (.val b))
  | _ => Option.none
noncomputable def setAll : List Slot → List Nat → List D → List Slot
  | ρ, i :: is, d :: ds => setAll (ρ.set i (.val d)) is ds
  | ρ, _, _ => ρ
noncomputable def putN (is : List Nat) (d : D) (ρ : List Slot) : Option (List Slot) := match d with
  | .tup l => if l.length = is.length then some (setAll ρ is l) else none
  | _ => none
noncomputable def ownAt (ρ : List Slot) (i : Nat) : Option (List D) := match ρ[i]? with
  | some (.own l) => some l
  | _ => Option.none
noncomputable def noApp (i : Nat) (ρ : List Slot) : Bool := ρ.all fun s => match s with | .app j => j != i | _ => true
noncomputable def wf : Nat := 100000
noncomputable def ex : S → List Slot → Option (List Slot × Out)
  | .skip, ρ => some (ρ, .next)
  | .seq a b, ρ => match ex a ρ with
    | some (ρ', .next) => ex b ρ'
    | some (ρ', o) => some (ρ', o)
    | Option.none => Option.none
  | .fz i, ρ => match ownAt ρ i with
    | some l => some (ρ.set i (.val (.list l)), .next)
    | Option.none => some (ρ, .next)
  | .assign i x, ρ => (ev1 cf x ρ).map fun d => (ρ.set i (.val d), .next)
  | .assignO i x, ρ => if noApp i ρ then (match ev cf x ρ with
    | some [.own l] => some (ρ.set i (.own l), .next)
    | some [.val d] => some (ρ.set i (.val d), .next)
    | _ => Option.none) else Option.none
  | .assign1 i x, ρ => match ev1 cf x ρ with
    | some d => some (ρ.set i (.val d), .next)
    | Option.none => Option.none
  | .assign2 i j x, ρ => match ev1 cf x ρ with
    | some (.tup [a, b]) => some ((ρ.set i (.val a)).set j (.val b), .next)
    | _ => Option.none
  | .assign3 i j k x, ρ => match ev1 cf x ρ with
    | some (.tup [a, b, c]) => some (((ρ.set i (.val a)).set j (.val b)).set k (.val c), .next)
    | _ => Option.none
  | .alias i j, ρ => match ownAt ρ j with
    | some _ => some (ρ.set i (.app j), .next)
    | Option.none => Option.none
  | .append i x, ρ => match ev1 cf x ρ, ownAt ρ i with
    | some d, some l => if l.length < lim then some (ρ.set i (.own (l ++ [d])), .next) else Option.none
    | _, _ => Option.none
  | .appendVia i j x, ρ => match ρ[i]? with
    | some (.app j') => if j' = j then (match ev1 cf x ρ, ownAt ρ j with
      | some d, some l => if l.length < lim then some (ρ.set j (.own (l ++ [d])), .next) else Option.none
      | _, _ => Option.none) else Option.none
    | _ => Option.none
  | .aug i x, ρ => match ρ[i]?, ev1 cf x ρ with
    | some (.val (.str a)), some (.str b) => if a.length + b.length ≤ lim then some (ρ.set i (.val (.str (a ++ b))), .next) else Option.none
    | _, _ => Option.none
  | .extend i x, ρ => match ev1 cf x ρ, ownAt ρ i with
    | some (.list m), some l => if l.length + m.length ≤ lim then some (ρ.set i (.own (l ++ m)), .next) else Option.none
    | _, _ => Option.none
  | .pop i, ρ => match ownAt ρ i with
    | some l => (match l.getLast? with
      | some (.str _) => some (ρ.set i (.own l.dropLast), .next)
      | _ => Option.none)
    | Option.none => Option.none
  | .setItem i k x, ρ => match ev1 cf x ρ, ev1 cf k ρ, ownAt ρ i with
    | some d, some (.int n), some l => if small n then (match place n l.length with
      | some p => some (ρ.set i (.own (l.set p d)), .next)
      | Option.none => Option.none) else Option.none
    | _, _, _ => Option.none
  | .augItem i k x, ρ => match ev1 cf k ρ, ev1 cf x ρ, ownAt ρ i with
    | some (.int n), some (.str y), some l => if small n then (match place n l.length with
      | some p => (match l[p]? with
        | some (.str z) => if z.length + y.length ≤ lim then some (ρ.set i (.own (l.set p (.str (z ++ y)))), .next) else Option.none
        | _ => Option.none)
      | Option.none => Option.none) else Option.none
    | _, _, _ => Option.none
  | .delItem i k, ρ => match ev1 cf k ρ, ownAt ρ i with
    | some (.int n), some l => if 0 ≤ n ∧ n < l.length then some (ρ.set i (.own (l.eraseIdx n.toNat)), .next) else Option.none
    | _, _ => Option.none
  | .ite c a b, ρ => match evT cf c ρ with
    | some true => ex a ρ
    | some false => ex b ρ
    | Option.none => Option.none
  | .while c b, ρ => whileGo (evT cf c) (ex b) wf ρ
  | .forE i it b, ρ => match evI cf it ρ with
    | some items => forGo (put1 i) (ex b) items ρ
    | Option.none => Option.none
  | .forE2 i j it b, ρ => match evI cf it ρ with
    | some items => forGo (put2 i j) (ex b) items ρ
    | Option.none => Option.none
  | .forN is it b, ρ => match evI cf it ρ with
    | some items => forGo (putN is) (ex b) items ρ
    | Option.none => Option.none
  | .ret x, ρ => (ev1 cf x ρ).map fun d => (ρ, .ret d)
  | .brk, ρ => some (ρ, .brk)
  | .cont, ρ => some (ρ, .cont)
  | .assert c, ρ => match evT cf c ρ with
    | some true => some (ρ, .next)
    | _ => Option.none
  | .try_ b, ρ => ex b ρ
  | .tryV f a b, ρ => match ev cf a ρ with
    | some rs => (match fzAll rs with
      | some [.list []] => if f = 13 then ex b ρ else Option.none
      | some ds => (cf f ds).map fun _ => (ρ, .next)
      | Option.none => Option.none)
    | Option.none => Option.none
theorem evq_const {ρ : List Slot} {d} : ev cf (.const d) ρ = (some [.val d]) := rfl
theorem evq_var {ρ : List Slot} {i} : ev cf (.var i) ρ = (match ρ[i]? with
    | some (.val d) => some [.val d]
    | some (.own l) => some [.bor l]
    | _ => Option.none) := rfl
theorem evq_op {ρ : List Slot} {o a} : ev cf (.op o a) ρ = (match ev cf a ρ with
    | some rs => (opF o (rs.map R.ds)).map fun r => [r]
    | Option.none => Option.none) := rfl
theorem evq_nil {ρ : List Slot} : ev cf .nil ρ = (some []) := rfl
theorem evq_cons {ρ : List Slot} {a r} : ev cf (.cons a r) ρ = (match ev cf a ρ with
    | some [x] => (ev cf r ρ).map fun xs => x :: xs
    | _ => Option.none) := rfl
theorem evq_star {ρ : List Slot} {a} : ev cf (.star a) ρ = (match ev cf a ρ with
    | some [x] => (match x.fz with
      | some (.list l) => some (l.map .val)
      | some (.tup l) => some (l.map .val)
      | _ => Option.none)
    | _ => Option.none) := rfl
theorem evq_and {ρ : List Slot} {a b} : ev cf (.and a b) ρ = (match ev cf a ρ with
    | some [x] => (match x.ds.truth with
      | some true => ev cf b ρ
      | some false => some [x]
      | Option.none => Option.none)
    | _ => Option.none) := rfl
theorem evq_or {ρ : List Slot} {a b} : ev cf (.or a b) ρ = (match ev cf a ρ with
    | some [x] => (match x.ds.truth with
      | some false => ev cf b ρ
      | some true => some [x]
      | Option.none => Option.none)
    | _ => Option.none) := rfl
theorem evq_not {ρ : List Slot} {a} : ev cf (.not a) ρ = (match ev cf a ρ with
    | some [x] => x.ds.truth.map fun b => [.val (.bool (!b))]
    | _ => Option.none) := rfl
theorem evq_ite {ρ : List Slot} {c t e} : ev cf (.ite c t e) ρ = (match truthR (ev cf c ρ) with
    | some true => ev cf t ρ
    | some false => ev cf e ρ
    | Option.none => Option.none) := rfl
theorem evq_call {ρ : List Slot} {f a} : ev cf (.call f a) ρ = (match ev cf a ρ with
    | some rs => (match fzAll rs with
      | some ds => (cf f ds).map fun d => [.val d]
      | Option.none => Option.none)
    | Option.none => Option.none) := rfl
theorem evq_tup {ρ : List Slot} {a} : ev cf (.tup a) ρ = (match ev cf a ρ with
    | some rs => (match fzAll rs with
      | some ds => if ds.length ≤ lim then some [.val (.tup ds)] else Option.none
      | Option.none => Option.none)
    | Option.none => Option.none) := rfl
theorem evq_list {ρ : List Slot} {a} : ev cf (.list a) ρ = (match ev cf a ρ with
    | some rs => (match fzAll rs with
      | some ds => if ds.length ≤ lim then some [.own ds] else Option.none
      | Option.none => Option.none)
    | Option.none => Option.none) := rfl
theorem evq_comp {ρ : List Slot} {i it c e} : ev cf (.comp i it c e) ρ = (match ev cf it ρ with
    | some [.val (.list items)] => (compGo (fun d => turnD (ev cf c (ρ.set i (.val d))) (ev cf e (ρ.set i (.val d)))) items).map fun l => [.own l]
    | _ => Option.none) := rfl
theorem evq_comp2 {ρ : List Slot} {i j it c e} : ev cf (.comp2 i j it c e) ρ = (match ev cf it ρ with
    | some [.val (.list items)] => (compGo (fun d => match d with
        | .tup [a, b] => turnD (ev cf c ((ρ.set i (.val a)).set j (.val b))) (ev cf e ((ρ.set i (.val a)).set j (.val b)))
        | _ => Option.none) items).map fun l => [.own l]
    | _ => Option.none) := rfl
theorem evq_comp3 {ρ : List Slot} {i it j jt e} : ev cf (.comp3 i it j jt e) ρ = (match ev cf it ρ with
    | some [.val (.list items)] => (match compGo (fun d => match ev cf jt (ρ.set i (.val d)) with
        | some [.val (.list its)] => (compGo (fun d' => turnD (some [.val (.bool true)]) (ev cf e ((ρ.set i (.val d)).set j (.val d')))) its).map fun l => some (.list l)
        | _ => Option.none) items with
      | some ls => (match allSome (ls.map fun d => match d with | .list l => some l | _ => Option.none) with
        | some lls => if lls.flatten.length ≤ lim then some [.own lls.flatten] else Option.none
        | Option.none => Option.none)
      | Option.none => Option.none)
    | _ => Option.none) := rfl
theorem evq_mapF {ρ : List Slot} {f a} : ev cf (.mapF f a) ρ = (match ev cf a ρ with
    | some [x] => (match x.fz.bind itemsOf with
      | some items => (allSome (items.map fun d => cf f [d])).map fun l => [.val (.tup l)]
      | Option.none => Option.none)
    | _ => Option.none) := rfl
theorem evq_seqI {ρ : List Slot} {a} : ev cf (.seqI a) ρ = (match ev cf a ρ with
    | some [x] => (match x.fz with
      | some d => (itemsOf d).map fun l => [.val (.list l)]
      | Option.none => Option.none)
    | _ => Option.none) := rfl
theorem evq_rangeI {ρ : List Slot} {a} : ev cf (.rangeI a) ρ = (match ev cf a ρ with
    | some rs => (opRange (rs.map R.ds)).map fun l => [.val (.list l)]
    | Option.none => Option.none) := rfl
theorem evq_enumI {ρ : List Slot} {a} : ev cf (.enumI a) ρ = (match ev cf a ρ with
    | some [x] => (match x.fz with
      | some d => (enumOf d).map fun l => [.val (.list (enumL 0 l))]
      | Option.none => Option.none)
    | _ => Option.none) := rfl
theorem evq_setI {ρ : List Slot} {i it e} : ev cf (.setI i it e) ρ = (match ev cf it ρ with
    | some [.val (.list items)] => (match compGo (fun d => turnD (some [.val (.bool true)]) (ev cf e (ρ.set i (.val d)))) items with
      | some (.bool b :: r) => if r.all (fun d => match d with | .bool b' => b' == b | _ => false) then some [.val (.bool b)] else Option.none
      | _ => Option.none)
    | _ => Option.none) := rfl
theorem exq_skip {ρ : List Slot} : ex cf .skip ρ = (some (ρ, .next)) := rfl
theorem exq_seq {ρ : List Slot} {a b} : ex cf (.seq a b) ρ = (match ex cf a ρ with
    | some (ρ', .next) => ex cf b ρ'
    | some (ρ', o) => some (ρ', o)
    | Option.none => Option.none) := rfl
theorem exq_fz {ρ : List Slot} {i} : ex cf (.fz i) ρ = (match ownAt ρ i with
    | some l => some (ρ.set i (.val (.list l)), .next)
    | Option.none => some (ρ, .next)) := rfl
theorem exq_assign {ρ : List Slot} {i x} : ex cf (.assign i x) ρ = ((ev1 cf x ρ).map fun d => (ρ.set i (.val d), .next)) := rfl
theorem exq_assignO {ρ : List Slot} {i x} : ex cf (.assignO i x) ρ = (if noApp i ρ then (match ev cf x ρ with
    | some [.own l] => some (ρ.set i (.own l), .next)
    | some [.val d] => some (ρ.set i (.val d), .next)
    | _ => Option.none) else Option.none) := rfl
theorem exq_assign2 {ρ : List Slot} {i j x} : ex cf (.assign2 i j x) ρ = (match ev1 cf x ρ with
    | some (.tup [a, b]) => some ((ρ.set i (.val a)).set j (.val b), .next)
    | _ => Option.none) := rfl
theorem exq_assign3 {ρ : List Slot} {i j k x} : ex cf (.assign3 i j k x) ρ = (match ev1 cf x ρ with
    | some (.tup [a, b, c]) => some (((ρ.set i (.val a)).set j (.val b)).set k (.val c), .next)
    | _ => Option.none) := rfl
theorem exq_alias {ρ : List Slot} {i j} : ex cf (.alias i j) ρ = (match ownAt ρ j with
    | some _ => some (ρ.set i (.app j), .next)
    | Option.none => Option.none) := rfl
theorem exq_append {ρ : List Slot} {i x} : ex cf (.append i x) ρ = (match ev1 cf x ρ, ownAt ρ i with
    | some d, some l => if l.length < lim then some (ρ.set i (.own (l ++ [d])), .next) else Option.none
    | _, _ => Option.none) := rfl
theorem exq_appendVia {ρ : List Slot} {i j x} : ex cf (.appendVia i j x) ρ = (match ρ[i]? with
    | some (.app j') => if j' = j then (match ev1 cf x ρ, ownAt ρ j with
      | some d, some l => if l.length < lim then some (ρ.set j (.own (l ++ [d])), .next) else Option.none
      | _, _ => Option.none) else Option.none
    | _ => Option.none) := rfl
theorem exq_aug {ρ : List Slot} {i x} : ex cf (.aug i x) ρ = (match ρ[i]?, ev1 cf x ρ with
    | some (.val (.str a)), some (.str b) => if a.length + b.length ≤ lim then some (ρ.set i (.val (.str (a ++ b))), .next) else Option.none
    | _, _ => Option.none) := rfl
theorem exq_pop {ρ : List Slot} {i} : ex cf (.pop i) ρ = (match ownAt ρ i with
    | some l => (match l.getLast? with
      | some (.str _) => some (ρ.set i (.own l.dropLast), .next)
      | _ => Option.none)
    | Option.none => Option.none) := rfl
theorem exq_setItem {ρ : List Slot} {i k x} : ex cf (.setItem i k x) ρ = (match ev1 cf x ρ, ev1 cf k ρ, ownAt ρ i with
    | some d, some (.int n), some l => if small n then (match place n l.length with
      | some p => some (ρ.set i (.own (l.set p d)), .next)
      | Option.none => Option.none) else Option.none
    | _, _, _ => Option.none) := rfl
theorem exq_augItem {ρ : List Slot} {i k x} : ex cf (.augItem i k x) ρ = (match ev1 cf k ρ, ev1 cf x ρ, ownAt ρ i with
    | some (.int n), some (.str y), some l => if small n then (match place n l.length with
      | some p => (match l[p]? with
        | some (.str z) => if z.length + y.length ≤ lim then some (ρ.set i (.own (l.set p (.str (z ++ y)))), .next) else Option.none
        | _ => Option.none)
      | Option.none => Option.none) else Option.none
    | _, _, _ => Option.none) := rfl
theorem exq_delItem {ρ : List Slot} {i k} : ex cf (.delItem i k) ρ = (match ev1 cf k ρ, ownAt ρ i with
    | some (.int n), some l => if 0 ≤ n ∧ n < l.length then some (ρ.set i (.own (l.eraseIdx n.toNat)), .next) else Option.none
    | _, _ => Option.none) := rfl
theorem exq_ite {ρ : List Slot} {c a b} : ex cf (.ite c a b) ρ = (match evT cf c ρ with
    | some true => ex cf a ρ
    | some false => ex cf b ρ
    | Option.none => Option.none) := rfl
theorem exq_while {ρ : List Slot} {c b} : ex cf (.while c b) ρ = (whileGo (evT cf c) (ex cf b) wf ρ) := rfl
theorem exq_forE {ρ : List Slot} {i it b} : ex cf (.forE i it b) ρ = (match evI cf it ρ with
    | some items => forGo (put1 i) (ex cf b) items ρ
    | Option.none => Option.none) := rfl
theorem exq_forE2 {ρ : List Slot} {i j it b} : ex cf (.forE2 i j it b) ρ = (match evI cf it ρ with
    | some items => forGo (put2 i j) (ex cf b) items ρ
    | Option.none => Option.none) := rfl
theorem exq_ret {ρ : List Slot} {x} : ex cf (.ret x) ρ = ((ev1 cf x ρ).map fun d => (ρ, .ret d)) := rfl
theorem exq_brk {ρ : List Slot} : ex cf .brk ρ = (some (ρ, .brk)) := rfl
theorem exq_cont {ρ : List Slot} : ex cf .cont ρ = (some (ρ, .cont)) := rfl
theorem exq_assert {ρ : List Slot} {c} : ex cf (.assert c) ρ = (match evT cf c ρ with
    | some true => some (ρ, .next)
    | _ => Option.none) := rfl
theorem exq_try_ {ρ : List Slot} {b} : ex cf (.try_ b) ρ = (ex cf b ρ) := rfl
end
set_option genInjectivity false in
structure Fn where
  np : Nat
  va : Bool
  ns : Nat
  body : S
noncomputable def bindD (f : Fn) (args : List D) : Option (List Slot) :=
  if f.va then (if f.np ≤ args.length ∧ args.length ≤ lim then some (((args.take f.np).map .val ++ [.val (.tup (args.drop f.np))]) ++ List.replicate (f.ns - f.np - 1) .unset) else Option.none)
  else if args.length = f.np then some (args.map .val ++ List.replicate (f.ns - f.np) .unset) else Option.none
noncomputable def callF (fns : Nat → Option Fn) : Nat → Nat → List D → Option D
  | 0, _, _ => Option.none
  | n + 1, f, args => match fns f with
    | Option.none => Option.none
    | some fn => match bindD fn args with
      | Option.none => Option.none
      | some ρ => match ex (callF fns n) fn.body ρ with
        | some (_, .ret d) => some d
        | some (_, .next) => some .none
        | _ => Option.none
end Mine
end MpAx
section MpBx
open PySem PySem.Calls PyProof.Rows
namespace Mine
set_option genInjectivity false in
structure Cx where
  prog : Program
  w : World
  h0 : Heap
  X : Addr → Prop
  XI : Heap → Prop
  T : Nat → Addr
  mg : Str → Option Value
  mb : Str → Option Value
  fa : Nat → Addr
section
variable (T : Nat → Addr) (F : Addr → Prop) (h : Heap)
mutual
inductive Rep : Value → D → Prop
  | none : Rep .none .none
  | bool (b : Bool) : Rep (.bool b) (.bool b)
  | int (i : Int) (t : Tok) : Rep (.int i t) (.int i)
  | str {l : List Nat} (t : Tok) : (∀ c ∈ l, c < 0x110000) → l.length ≤ lim → Rep (.str ⟨l.toArray⟩ t) (.str l)
  | ty (n : String) : Rep (.type n) (.ty n)
  | list {a : Addr} {vs : List Value} {n : Nat} {ds : List D} : F a → h.get? a = some (lobj vs.toArray n) → vs.length ≤ lim → RepL vs ds → Rep (.ref a) (.list ds)
  | tup {a : Addr} {vs : List Value} {n : Nat} {ds : List D} : F a → h.get? a = some (tobj vs.toArray n) → vs.length ≤ lim → RepL vs ds → Rep (.ref a) (.tup ds)
  | tok {k : Nat} {n : Nat} {t : Tok} : F (T k) → h.get? (T k) = some (lobj #[.str ⟨(tokC k).toArray⟩ t] n) → Rep (.ref (T k)) (.tok k)
inductive RepL : List Value → List D → Prop
  | nil : RepL [] []
  | cons {v : Value} {vs : List Value} {d : D} {ds : List D} : Rep v d → RepL vs ds → RepL (v :: vs) (d :: ds)
end
end
section
variable {T : Nat → Addr} {F F' : Addr → Prop} {h h' : Heap}
theorem Rep.mono (hF : ∀ a, F a → F' a) (hk : ∀ a o, F a → h.get? a = some o → h'.get? a = some o) {v : Value} {d : D} (r : Rep T F h v d) : Rep T F' h' v d :=
  Rep.rec (motive_1 := fun v d _ => Rep T F' h' v d) (motive_2 := fun vs ds _ => RepL T F' h' vs ds) .none .bool .int (fun t q z => .str t q z) .ty (fun f g z _ i => .list (hF _ f) (hk _ _ f g) z i) (fun f g z _ i => .tup (hF _ f) (hk _ _ f g) z i) (fun f g => .tok (hF _ f) (hk _ _ f g)) .nil (fun _ _ a b => .cons a b) r
theorem RepL.mono (hF : ∀ a, F a → F' a) (hk : ∀ a o, F a → h.get? a = some o → h'.get? a = some o) {vs : List Value} {ds : List D} (r : RepL T F h vs ds) : RepL T F' h' vs ds :=
  RepL.rec (motive_1 := fun v d _ => Rep T F' h' v d) (motive_2 := fun vs ds _ => RepL T F' h' vs ds) .none .bool .int (fun t q z => .str t q z) .ty (fun f g z _ i => .list (hF _ f) (hk _ _ f g) z i) (fun f g z _ i => .tup (hF _ f) (hk _ _ f g) z i) (fun f g => .tok (hF _ f) (hk _ _ f g)) .nil (fun _ _ a b => .cons a b) r
theorem RepL.ind {motive : List Value → List D → Prop} (hn : motive [] []) (hc : ∀ {v vs d ds}, Rep T F h v d → RepL T F h vs ds → motive vs ds → motive (v :: vs) (d :: ds)) {vs : List Value} {ds : List D} (q : RepL T F h vs ds) : motive vs ds :=
  RepL.rec (motive_1 := fun _ _ _ => True) (motive_2 := fun vs ds _ => motive vs ds) trivial (fun _ => trivial) (fun _ _ => trivial) (fun _ _ _ => trivial) (fun _ => trivial) (fun _ _ _ _ _ => trivial) (fun _ _ _ _ _ => trivial) (fun _ _ => trivial) hn (fun a r _ i => hc a r i) q
theorem RepL.length {vs : List Value} {ds : List D} (q : RepL T F h vs ds) : vs.length = ds.length :=
  q.ind (motive := fun vs ds => vs.length = ds.length) rfl fun _ _ i => congrArg Nat.succ i
theorem RepL.append {vs ws : List Value} {ds es : List D} (q : RepL T F h vs ds) (k : RepL T F h ws es) : RepL T F h (vs ++ ws) (ds ++ es) :=
  q.ind (motive := fun vs ds => RepL T F h (vs ++ ws) (ds ++ es)) k fun a _ i => .cons a i
theorem RepL.get {vs : List Value} {ds : List D} (q : RepL T F h vs ds) : ∀ {k : Nat} {d : D}, ds[k]? = some d → ∃ v, vs[k]? = some v ∧ Rep T F h v d :=
  q.ind (motive := fun vs ds => ∀ {k : Nat} {d : D}, ds[k]? = some d → ∃ v, vs[k]? = some v ∧ Rep T F h v d) (fun e => nomatch e) fun a _ i => by
    intro k d e
    cases k with
    | zero => cases e; exact ⟨_, rfl, a⟩
    | succ k => exact i (k := k) e
theorem RepL.getV {vs : List Value} {ds : List D} (r : RepL T F h vs ds) {k : Nat} {v : Value} (e : vs[k]? = some v) : ∃ d, ds[k]? = some d ∧ Rep T F h v d := by
  have hk : k < vs.length := by
    rcases Nat.lt_or_ge k vs.length with q | q
    · exact q
    · rw [List.getElem?_eq_none q] at e; cases e
  have hk' : k < ds.length := r.length ▸ hk
  obtain ⟨v', e', rv⟩ := r.get (List.getElem?_eq_getElem hk')
  rw [e] at e'; cases e'
  exact ⟨_, List.getElem?_eq_getElem hk', rv⟩
theorem RepL.take {vs : List Value} {ds : List D} (n : Nat) (q : RepL T F h vs ds) : RepL T F h (vs.take n) (ds.take n) :=
  q.ind (motive := fun vs ds => ∀ n, RepL T F h (vs.take n) (ds.take n)) (fun n => by cases n <;> exact .nil) (fun a _ i n => by cases n with | zero => exact .nil | succ n => exact .cons a (i n)) n
theorem RepL.drop {vs : List Value} {ds : List D} (n : Nat) (q : RepL T F h vs ds) : RepL T F h (vs.drop n) (ds.drop n) :=
  q.ind (motive := fun vs ds => ∀ n, RepL T F h (vs.drop n) (ds.drop n)) (fun n => by cases n <;> exact .nil) (fun a r i n => by cases n with | zero => exact .cons a r | succ n => exact i n) n
theorem RepL.set {vs : List Value} {ds : List D} (n : Nat) {v : Value} {d : D} (q : RepL T F h vs ds) (k : Rep T F h v d) : RepL T F h (vs.set n v) (ds.set n d) :=
  q.ind (motive := fun vs ds => ∀ n, RepL T F h (vs.set n v) (ds.set n d)) (fun _ => .nil) (fun a r i n => by cases n with | zero => exact .cons k r | succ n => exact .cons a (i n)) n
theorem RepL.eraseIdx {vs : List Value} {ds : List D} (n : Nat) (q : RepL T F h vs ds) : RepL T F h (vs.eraseIdx n) (ds.eraseIdx n) :=
  q.ind (motive := fun vs ds => ∀ n, RepL T F h (vs.eraseIdx n) (ds.eraseIdx n)) (fun _ => .nil) (fun a r i n => by cases n with | zero => exact r | succ n => exact .cons a (i n)) n
theorem RepL.dropLast {vs : List Value} {ds : List D} (r : RepL T F h vs ds) : RepL T F h vs.dropLast ds.dropLast := by
  rw [List.dropLast_eq_take, List.dropLast_eq_take, r.length]; exact r.take _
theorem RepL.reverse {vs : List Value} {ds : List D} (q : RepL T F h vs ds) : RepL T F h vs.reverse ds.reverse :=
  q.ind (motive := fun vs ds => RepL T F h vs.reverse ds.reverse) .nil fun a _ i => by rw [List.reverse_cons, List.reverse_cons]; exact i.append (.cons a .nil)
theorem RepL.pickAt (is : List Nat) {vs : List Value} {ds : List D} (r : RepL T F h vs ds) : RepL T F h (is.filterMap (vs[·]?)) (is.filterMap (ds[·]?)) := by
  induction is with
  | nil => exact .nil
  | cons k is ih =>
    rcases Nat.lt_or_ge k ds.length with q | q
    · obtain ⟨v, e, rv⟩ := r.get (List.getElem?_eq_getElem q)
      rw [List.filterMap_cons_some e, List.filterMap_cons_some (List.getElem?_eq_getElem q)]
      exact .cons rv ih
    · rw [List.filterMap_cons_none (by simpa using r.length ▸ q), List.filterMap_cons_none (by simpa using q)]
      exact ih
theorem RepL.rep (n : Nat) {vs : List Value} {ds : List D} (r : RepL T F h vs ds) : RepL T F h (List.replicate n vs).flatten (List.replicate n ds).flatten := by
  induction n with
  | zero => simp; exact .nil
  | succ n ih => simp only [List.replicate_succ, List.flatten_cons]; exact r.append ih
theorem Rep.reads {v : Value} {d : D} {n : Nat} (r : Rep T F h v d) (q : d.ok n = true) : ∃ as, Reads h v d.toPy as := by
  have nx : ∀ {d : D} {n : Nat}, d.ok n = true → ∃ k, n = k + 1 := fun {d n} q => by
    cases n with
    | zero => unfold D.ok at q; cases q
    | succ k => exact ⟨k, rfl⟩
  refine Rep.rec (motive_1 := fun v d _ => ∀ n, d.ok n = true → ∃ as, Reads h v d.toPy as) (motive_2 := fun vs ds _ => ∀ n, D.oks n ds = true → ∃ as, ReadsAll h vs (D.toPys ds) as) (fun _ _ => ⟨[], .none⟩) (fun b _ _ => ⟨[], .bool b⟩) (fun i t _ _ => ⟨[], .int i t⟩) (fun t _ _ _ _ => ⟨[], .str _ t⟩) (fun m n q => ?_) (fun f g _ _ ih n q => ?_) (fun f g _ _ ih n q => ?_) (fun {k _ t} f g n q => ⟨_, Reads.list g rfl rfl (.cons (.str _ t) .nil)⟩) (fun _ _ => ⟨[], .nil⟩) (fun _ _ i1 i2 n q => ?_) r n q
  · obtain ⟨k, rfl⟩ := nx q; cases q
  · obtain ⟨k, rfl⟩ := nx q
    obtain ⟨as, x⟩ := ih k q
    exact ⟨_, Reads.list g rfl rfl (by rw [List.toList_toArray]; exact x)⟩
  · obtain ⟨k, rfl⟩ := nx q
    obtain ⟨as, x⟩ := ih k q
    exact ⟨_, Reads.tuple g rfl rfl (by rw [List.toList_toArray]; exact x)⟩
  · have q' := Bool.and_eq_true_iff.mp q
    obtain ⟨as, x⟩ := i1 n q'.1
    obtain ⟨bs, y⟩ := i2 n q'.2
    exact ⟨as ++ bs, .cons x y⟩
theorem RepL.reads {vs : List Value} {ds : List D} {n : Nat} (r : RepL T F h vs ds) (q : D.oks n ds = true) : ∃ as, ReadsAll h vs (D.toPys ds) as := by
  have nx : ∀ {d : D} {n : Nat}, d.ok n = true → ∃ k, n = k + 1 := fun {d n} q => by
    cases n with
    | zero => unfold D.ok at q; cases q
    | succ k => exact ⟨k, rfl⟩
  refine RepL.rec (motive_1 := fun v d _ => ∀ n, d.ok n = true → ∃ as, Reads h v d.toPy as) (motive_2 := fun vs ds _ => ∀ n, D.oks n ds = true → ∃ as, ReadsAll h vs (D.toPys ds) as) (fun _ _ => ⟨[], .none⟩) (fun b _ _ => ⟨[], .bool b⟩) (fun i t _ _ => ⟨[], .int i t⟩) (fun t _ _ _ _ => ⟨[], .str _ t⟩) (fun m n q => ?_) (fun f g _ _ ih n q => ?_) (fun f g _ _ ih n q => ?_) (fun {k _ t} f g n q => ⟨_, Reads.list g rfl rfl (.cons (.str _ t) .nil)⟩) (fun _ _ => ⟨[], .nil⟩) (fun _ _ i1 i2 n q => ?_) r n q
  · obtain ⟨k, rfl⟩ := nx q; cases q
  · obtain ⟨k, rfl⟩ := nx q
    obtain ⟨as, x⟩ := ih k q
    exact ⟨_, Reads.list g rfl rfl (by rw [List.toList_toArray]; exact x)⟩
  · obtain ⟨k, rfl⟩ := nx q
    obtain ⟨as, x⟩ := ih k q
    exact ⟨_, Reads.tuple g rfl rfl (by rw [List.toList_toArray]; exact x)⟩
  · have q' := Bool.and_eq_true_iff.mp q
    obtain ⟨as, x⟩ := i1 n q'.1
    obtain ⟨bs, y⟩ := i2 n q'.2
    exact ⟨as ++ bs, .cons x y⟩
end
section
variable {T : Nat → Addr} {F F' : Addr → Prop} {h h' : Heap}
theorem strOk_of {l : List Nat} (q : ∀ c ∈ l, c < 0x110000) : PyData.strOk ⟨l.toArray⟩ = true := by
  unfold PyData.strOk
  simpa [List.all_eq_true] using q
theorem Rep.lay {v : Value} {d : D} {n : Nat} (r : Rep T F h v d) (q : d.ok n = true) : d.toPy.canLay0 = true ∧ d.toPy.depth ≤ n := by
  have nx : ∀ {d : D} {n : Nat}, d.ok n = true → ∃ k, n = k + 1 := fun {d n} q => by
    cases n with
    | zero => unfold D.ok at q; cases q
    | succ k => exact ⟨k, rfl⟩
  refine Rep.rec (motive_1 := fun v d _ => ∀ n, d.ok n = true → d.toPy.canLay0 = true ∧ d.toPy.depth ≤ n) (motive_2 := fun vs ds _ => ∀ n, D.oks n ds = true → PyData.canLayAll0 (D.toPys ds) = true ∧ PyData.depthAll (D.toPys ds) ≤ n) (fun _ _ => ⟨rfl, Nat.zero_le _⟩) (fun _ _ _ => ⟨rfl, Nat.zero_le _⟩) (fun _ _ _ _ => ⟨rfl, Nat.zero_le _⟩) (fun t p _ _ _ => ⟨strOk_of p, Nat.zero_le _⟩) (fun m n q => ?_) (fun f g _ _ ih n q => ?_) (fun f g _ _ ih n q => ?_) (fun {k _ t} f g n q => ?_) (fun _ _ => ⟨rfl, Nat.zero_le _⟩) (fun _ _ i1 i2 n q => ?_) r n q
  · obtain ⟨k, rfl⟩ := nx q; cases q
  · obtain ⟨k, rfl⟩ := nx q
    have := ih k q
    simp only [D.toPy, PyData.canLay0, PyData.depth]
    exact ⟨this.1, by omega⟩
  · obtain ⟨k, rfl⟩ := nx q
    have := ih k q
    simp only [D.toPy, PyData.canLay0, PyData.depth]
    exact ⟨this.1, by omega⟩
  · obtain ⟨j, rfl⟩ := nx q
    have e : PyData.strOk ⟨(tokC k).toArray⟩ = true := strOk_of (by cases k <;> simp [tokC])
    have hj : 0 < j := of_decide_eq_true q
    simp only [D.toPy, PyData.canLay0, PyData.canLayAll0, PyData.depth, PyData.depthAll, e, Bool.and_self, true_and]; omega
  · have q' := Bool.and_eq_true_iff.mp q
    have x := i1 n q'.1
    have y := i2 n q'.2
    simp only [D.toPys, PyData.canLayAll0, PyData.depthAll, x.1, y.1]
    exact ⟨rfl, by omega⟩
theorem RepL.lay {vs : List Value} {ds : List D} {n : Nat} (r : RepL T F h vs ds) (q : D.oks n ds = true) : PyData.canLayAll0 (D.toPys ds) = true ∧ PyData.depthAll (D.toPys ds) ≤ n := by
  have nx : ∀ {d : D} {n : Nat}, d.ok n = true → ∃ k, n = k + 1 := fun {d n} q => by
    cases n with
    | zero => unfold D.ok at q; cases q
    | succ k => exact ⟨k, rfl⟩
  refine RepL.rec (motive_1 := fun v d _ => ∀ n, d.ok n = true → d.toPy.canLay0 = true ∧ d.toPy.depth ≤ n) (motive_2 := fun vs ds _ => ∀ n, D.oks n ds = true → PyData.canLayAll0 (D.toPys ds) = true ∧ PyData.depthAll (D.toPys ds) ≤ n) (fun _ _ => ⟨rfl, Nat.zero_le _⟩) (fun _ _ _ => ⟨rfl, Nat.zero_le _⟩) (fun _ _ _ _ => ⟨rfl, Nat.zero_le _⟩) (fun t p _ _ _ => ⟨strOk_of p, Nat.zero_le _⟩) (fun m n q => ?_) (fun f g _ _ ih n q => ?_) (fun f g _ _ ih n q => ?_) (fun {k _ t} f g n q => ?_) (fun _ _ => ⟨rfl, Nat.zero_le _⟩) (fun _ _ i1 i2 n q => ?_) r n q
  · obtain ⟨k, rfl⟩ := nx q; cases q
  · obtain ⟨k, rfl⟩ := nx q
    have := ih k q
    simp only [D.toPy, PyData.canLay0, PyData.depth]
    exact ⟨this.1, by omega⟩
  · obtain ⟨k, rfl⟩ := nx q
    have := ih k q
    simp only [D.toPy, PyData.canLay0, PyData.depth]
    exact ⟨this.1, by omega⟩
  · obtain ⟨j, rfl⟩ := nx q
    have e : PyData.strOk ⟨(tokC k).toArray⟩ = true := strOk_of (by cases k <;> simp [tokC])
    have hj : 0 < j := of_decide_eq_true q
    simp only [D.toPy, PyData.canLay0, PyData.canLayAll0, PyData.depth, PyData.depthAll, e, Bool.and_self, true_and]; omega
  · have q' := Bool.and_eq_true_iff.mp q
    have x := i1 n q'.1
    have y := i2 n q'.2
    simp only [D.toPys, PyData.canLayAll0, PyData.depthAll, x.1, y.1]
    exact ⟨rfl, by omega⟩
theorem Rep.shaped {v : Value} {d : D} {n : Nat} (r : Rep T F h v d) (q : d.ok n = true) (hn : n ≤ 60) : PySem.SeqAt.shaped d.toPy = true := by
  have l := r.lay q
  unfold PySem.SeqAt.shaped
  rw [l.1, Bool.true_and]; exact decide_eq_true (by omega)
end
end Mine
end MpBx
section MpCx
open PySem PySem.Calls PyProof.Rows
namespace Mine
noncomputable def GensBare (a : Array GenState) : Prop := ∀ g ∈ a, g.bare = true
set_option genInjectivity false in
structure XCx extends Cx where
  XF : (Addr → Prop) → Heap → Prop
set_option genInjectivity false in
structure Wd (cx : XCx) (F : Addr → Prop) (s : Shared) : Prop where
  base : ∀ a o, cx.h0.get? a = some o → ¬ cx.X a → s.heap.get? a = some o
  xi : cx.XF F s.heap
  gens : GensBare s.gens
  f0 : ∀ a o, cx.h0.get? a = some o → ¬ cx.X a → F a
  lt : ∀ a, F a → ∃ o, s.heap.get? a = some o
  nx : ∀ a, F a → ¬ cx.X a
  xex : ∀ a, cx.X a → ∃ o, s.heap.get? a = some o
set_option genInjectivity false in
structure CxOk (cx : XCx) : Prop where
  xi : ∀ F F' h h', cx.XF F h → (∀ a, F a → F' a) → (∀ a o, F a ∨ cx.X a → h.get? a = some o → h'.get? a = some o) → cx.XF F' h'
  glob : cx.h0.Ns mainGlobals cx.mg
  gx : ¬ cx.X mainGlobals
  blt : cx.h0.Ns builtinsNs cx.mb
  bx : ¬ cx.X builtinsNs
  bmb : ∀ x : Str, x ≠ "__name__" → cx.mb x = bootBuiltins x
  lim : cx.h0.NoLimit
  limx : ¬ cx.X cStatics
  seer : ∀ h : Heap, (∀ a o, cx.h0.get? a = some o → ¬ cx.X a → h.get? a = some o) → h.NoSeer
  tree : cx.prog.given.tree = none
  nb : ∃ mc, cx.h0.Ns cStatics mc ∧ mc sharingNotToldKey = none
  tinj : ∀ i j, cx.T i = cx.T j → i = j
set_option genInjectivity false in
structure Step (cx : XCx) (F : Addr → Prop) (s : Shared) (F' : Addr → Prop) (s' : Shared) : Prop where
  sub : ∀ a, F a → F' a
  new : ∀ a, F' a → F a ∨ s.heap.get? a = none
  keep : ∀ a o, s.heap.get? a = some o → ¬ cx.X a → s'.heap.get? a = some o
  os : s'.os = s.os
  wd : Wd cx F' s'
theorem fresh_size (h : Heap) : h.get? h.objs.size = none := by
  cases e : h.get? h.objs.size with
  | none => rfl
  | some o => exact absurd (Heap.lt_size e) (Nat.lt_irrefl _)
section
variable {cx : XCx} {F F' F'' : Addr → Prop} {s s' s'' : Shared}
theorem Step.refl (w : Wd cx F s) : Step cx F s F s := ⟨fun _ h => h, fun _ h => .inl h, fun _ _ e _ => e, rfl, w⟩
theorem Step.fresh (x : Step cx F s F' s') {a : Addr} (nx : ¬ cx.X a) (h : s'.heap.get? a = none) : s.heap.get? a = none := by
  cases e : s.heap.get? a with
  | none => rfl
  | some o => rw [x.keep a o e nx] at h; cases h
theorem Step.trans (x : Step cx F s F' s') (y : Step cx F' s' F'' s'') : Step cx F s F'' s'' :=
  ⟨fun a h => y.sub a (x.sub a h), fun a h => by
    rcases y.new a h with q | q
    · exact x.new a q
    · exact .inr (x.fresh (y.wd.nx a h) q), fun a o e nx => y.keep a o (x.keep a o e nx) nx, y.os.trans x.os, y.wd⟩
theorem Wd.toks (w : Wd cx F s) (k : Nat) : Wd cx F { s with toks := k } := ⟨w.base, w.xi, w.gens, w.f0, w.lt, w.nx, w.xex⟩
theorem Step.toks (x : Step cx F s F' s') (k : Nat) : Step cx F s F' { s' with toks := k } := ⟨x.sub, x.new, x.keep, x.os, x.wd.toks k⟩
theorem Step.rep (x : Step cx F s F' s') (w : Wd cx F s) {v : Value} {d : D} (r : Rep cx.T F s.heap v d) : Rep cx.T F' s'.heap v d := r.mono x.sub fun a o f e => x.keep a o e (w.nx a f)
theorem Step.repL (x : Step cx F s F' s') (w : Wd cx F s) {v : List Value} {d : List D} (r : RepL cx.T F s.heap v d) : RepL cx.T F' s'.heap v d := r.mono x.sub fun a o f e => x.keep a o e (w.nx a f)
theorem Step.grown (ok : CxOk cx) (w : Wd cx F s) {h' : Heap} (k : Nat) (hk : ∀ a o, s.heap.get? a = some o → h'.get? a = some o) : Step cx F s F { s with heap := h', toks := k } :=
  ⟨fun _ h => h, fun _ h => .inl h, fun a o e _ => hk a o e, rfl, ⟨fun a o e nx => hk a o (w.base a o e nx), ok.xi _ _ _ _ w.xi (fun _ h => h) (fun a o _ e => hk a o e), w.gens, w.f0, fun a f => let ⟨o, e⟩ := w.lt a f; ⟨o, hk a o e⟩, w.nx, fun a f => let ⟨o, e⟩ := w.xex a f; ⟨o, hk a o e⟩⟩⟩
theorem Step.push (ok : CxOk cx) (w : Wd cx F s) (o : Obj) (k : Nat) : Step cx F s F { s with heap := s.heap.push o, toks := k } :=
  Step.grown ok w k fun _ _ e => Heap.get?_push_of_some o e
theorem Wd.newNotX (w : Wd cx F s) {a : Addr} (h : s.heap.get? a = none) : ¬ cx.X a := fun x => by
  obtain ⟨o, e⟩ := w.xex a x
  rw [e] at h; cases h
theorem Wd.newNotF (w : Wd cx F s) {a : Addr} (h : s.heap.get? a = none) : ¬ F a := fun x => by
  obtain ⟨o, e⟩ := w.lt a x
  rw [e] at h; cases h
theorem Step.freeze (ok : CxOk cx) (w : Wd cx F s) (x : Step cx F s F' s') {a : Addr} {o : Obj} (h1 : s.heap.get? a = none) (h2 : s'.heap.get? a = some o) : Step cx F s (fun b => F' b ∨ b = a) s' :=
  ⟨fun b h => .inl (x.sub b h), fun b h => h.elim (x.new b) fun e => .inr (e ▸ h1), x.keep, x.os,
    ⟨x.wd.base, ok.xi _ _ _ _ x.wd.xi (fun _ h => .inl h) (fun _ _ _ e => e), x.wd.gens, fun b o h nx => .inl (x.wd.f0 b o h nx), fun b h => h.elim (x.wd.lt b) fun e => e ▸ ⟨o, h2⟩,
      fun b h => h.elim (x.wd.nx b) fun e => e ▸ w.newNotX h1, x.wd.xex⟩⟩
theorem Step.notF (x : Step cx F s F' s') {a : Addr} {o : Obj} (h : ¬ F a) (hl : s.heap.get? a = some o) : ¬ F' a := fun h' => by
  rcases x.new a h' with q | q
  · exact h q
  · rw [hl] at q; cases q
theorem Wd.glob (ok : CxOk cx) (w : Wd cx F s) : s.heap.Ns mainGlobals cx.mg := ok.glob.at' fun o e => w.base _ o e ok.gx
theorem Wd.blt (ok : CxOk cx) (w : Wd cx F s) : s.heap.Ns builtinsNs cx.mb := ok.blt.at' fun o e => w.base _ o e ok.bx
theorem Wd.lim (ok : CxOk cx) (w : Wd cx F s) : s.heap.NoLimit := ok.lim.at fun o e => w.base _ o e ok.limx
end
inductive BRep (cx : XCx) (F : Addr → Prop) (h : Heap) : Value → D → Prop
  | rep {v : Value} {d : D} : Rep cx.T F h v d → BRep cx F h v d
  | own {a : Addr} {vs : List Value} {n : Nat} {l : List D} : ¬ cx.X a → h.get? a = some (lobj vs.toArray n) → vs.length ≤ lim → RepL cx.T F h vs l → BRep cx F h (.ref a) (.list l)
inductive BRepL (cx : XCx) (F : Addr → Prop) (h : Heap) : List Value → List D → Prop
  | nil : BRepL cx F h [] []
  | cons {v : Value} {vs : List Value} {d : D} {ds : List D} : BRep cx F h v d → BRepL cx F h vs ds → BRepL cx F h (v :: vs) (d :: ds)
inductive RepR (cx : XCx) (F : Addr → Prop) (lo : Heap) (h : Heap) : Value → R → Prop
  | val {v : Value} {d : D} : Rep cx.T F h v d → RepR cx F lo h v (.val d)
  | own {a : Addr} {vs : List Value} {n : Nat} {l : List D} : lo.get? a = none → ¬ F a → ¬ cx.X a → h.get? a = some (lobj vs.toArray n) → vs.length ≤ lim → RepL cx.T F h vs l → RepR cx F lo h (.ref a) (.own l)
  | bor {a : Addr} {vs : List Value} {n : Nat} {l : List D} : ¬ cx.X a → h.get? a = some (lobj vs.toArray n) → vs.length ≤ lim → RepL cx.T F h vs l → RepR cx F lo h (.ref a) (.bor l)
section
variable {cx : XCx} {F F' F'' : Addr → Prop} {s s' s'' : Shared} {v : Value} {d : D} {r : R} {lo : Heap} {vs : List Value} {ds : List D}
theorem Step.brep (x : Step cx F s F' s') (w : Wd cx F s) (b : BRep cx F s.heap v d) : BRep cx F' s'.heap v d := by
  cases b with
  | rep q => exact .rep (x.rep w q)
  | own nx e z q => exact .own nx (x.keep _ _ e nx) z (x.repL w q)
theorem RepR.brep {h : Heap} (q : RepR cx F lo h v r) : BRep cx F h v r.ds := by
  cases q with
  | val q => exact .rep q
  | own _ _ nx e z q => exact .own nx e z q
  | bor nx e z q => exact .own nx e z q
theorem RepR.step (x : Step cx F s F' s') (w : Wd cx F s) (q : RepR cx F lo s.heap v r) : RepR cx F' lo s'.heap v r := by
  cases q with
  | val q => exact .val (x.rep w q)
  | own l nf nx e z q => exact .own l (x.notF nf e) nx (x.keep _ _ e nx) z (x.repL w q)
  | bor nx e z q => exact .bor nx (x.keep _ _ e nx) z (x.repL w q)
theorem RepR.low (x : Step cx F s F' s') {F'' : Addr → Prop} {h : Heap} (q : RepR cx F'' s'.heap h v r) : RepR cx F'' s.heap h v r := by
  cases q with
  | val q => exact .val q
  | own l nf nx e z q => exact .own (x.fresh nx l) nf nx e z q
  | bor nx e z q => exact .bor nx e z q
theorem Step.fz (ok : CxOk cx) (w : Wd cx F s) (x : Step cx F s F' s') (q : RepR cx F' s.heap s'.heap v r) (e : r.fz = some d) :
    ∃ F'', Step cx F s F'' s' ∧ (∀ a, F' a → F'' a) ∧ Rep cx.T F'' s'.heap v d := by
  cases q with
  | val q => cases e; exact ⟨F', x, fun _ h => h, q⟩
  | own l nf nx g z q =>
    cases e
    exact ⟨_, x.freeze ok w l g, fun _ h => .inl h, .list (.inr rfl) g z (q.mono (fun _ h => .inl h) fun _ _ _ e => e)⟩
  | bor nx g z q => cases e
end
set_option genInjectivity false in
structure Bud (n : Nat) (A : Around) : Prop where
  hd : A.handled = none
  dp : A.depth + n < 890
  un : A.units + 10 * n + 200 < 9900
  fs : ∃ l, A.frames = some l
set_option genInjectivity false in
structure BudE (n : Nat) (A : Around) : Prop extends Bud n A where
  fr : ∃ env l, A.frames = some (env :: l) ∧ env.scope.isGenerator = false ∧ env.scope.isCoroutine = false ∧ env.builtins = builtinsNs ∧ env.globals = mainGlobals
noncomputable def Post (cx : XCx) (F : Addr → Prop) (s : Shared) (r : R) (Q : Value → Shared → Prop) : Prop :=
  ∀ v F' s', Step cx F s F' s' → RepR cx F' s.heap s'.heap v r → Q v s'
noncomputable def Ev (cx : XCx) (A : Around) (F : Addr → Prop) (s : Shared) (t : Sem Value) (r : R) : Prop := ∀ Q E, Post cx F s r Q → wpAny (model cx.prog cx.w) A t Q E s
noncomputable def EvB (cx : XCx) (A : Around) (F : Addr → Prop) (s : Shared) (t : Sem Bool) (b : Bool) : Prop := ∀ Q E, (∀ F' s', Step cx F s F' s' → Q b s') → wpAny (model cx.prog cx.w) A t Q E s
set_option genInjectivity false in
structure Sc where
  kinds : List (Str × NameKind)
  vars : List (Str × Nat)
  code : Option (Addr × PySem.Str) := none
inductive SlotRep (cx : XCx) (F : Addr → Prop) (h : Heap) (ad : Nat → Addr) (i : Nat) : Option Value → Slot → Prop
  | unset {ov : Option Value} : SlotRep cx F h ad i ov .unset
  | val {v : Value} {d : D} : Rep cx.T F h v d → SlotRep cx F h ad i (some v) (.val d)
  | own {vs : List Value} {n : Nat} {l : List D} : ¬ F (ad i) → ¬ cx.X (ad i) → h.get? (ad i) = some (lobj vs.toArray n) → vs.length ≤ lim → RepL cx.T F h vs l → SlotRep cx F h ad i (some (.ref (ad i))) (.own l)
  | app {b : Addr} {o : Obj} {j : Nat} : F b → h.get? b = some o → o = appObj (ad j) → SlotRep cx F h ad i (some (.ref b)) (.app j)
noncomputable def slotAt (ρ : List Slot) (i : Nat) : Slot := ρ.getD i .unset
set_option genInjectivity false in
structure EnvOK (cx : XCx) (ε : Sc) (env : Env) (F : Addr → Prop) (h : Heap) (ρ : List Slot) (ad : Nat → Addr) (m cm : Str → Option Value) : Prop where
  kind : env.scope.kind = .function
  names : env.scope.names = ε.kinds
  glob : env.globals = mainGlobals
  blt : env.builtins = builtinsNs
  code : ∀ c q, ε.code = some (c, q) → env.code = .ref c ∧ env.qual = q
  lx : ¬ cx.X env.locals
  cxx : ∀ n c, env.cells.lookup n = some c → ¬ cx.X c
  ns : h.Ns env.locals m
  cells : ∀ n c, env.cells.lookup n = some c → h.IsCell c (cm n)
  vars : ∀ x i, ε.vars.lookup x = some i →
    (ε.kinds.lookup x = some .local ∧ SlotRep cx F h ad i (m x) (slotAt ρ i)) ∨
    ((ε.kinds.lookup x = some .cell ∨ ε.kinds.lookup x = some .free) ∧ (∃ c, env.cells.lookup x = some c) ∧ SlotRep cx F h ad i (cm x) (slotAt ρ i))
section
variable {cx : XCx} {F F' : Addr → Prop} {s s' : Shared} {ε : Sc} {env : Env} {ρ : List Slot} {ad : Nat → Addr} {m cm : Str → Option Value}
theorem SlotRep.step {i : Nat} {ov : Option Value} {sl : Slot} (x : Step cx F s F' s') (w : Wd cx F s) (q : SlotRep cx F s.heap ad i ov sl) : SlotRep cx F' s'.heap ad i ov sl := by
  cases q with
  | unset => exact .unset
  | val q => exact .val (x.rep w q)
  | own nf nx g z q => exact .own (x.notF nf g) nx (x.keep _ _ g nx) z (x.repL w q)
  | app f g e => exact .app (x.sub _ f) (x.keep _ _ g (w.nx _ f)) e
theorem RepR.pushOwn (w : Wd cx F s) {vs : List Value} {l : List D} (z : vs.length ≤ lim) (q : RepL cx.T F s.heap vs l) : RepR cx F s.heap (s.heap.push (lobj vs.toArray 0)) (.ref s.heap.objs.size) (.own l) :=
  .own (n := 0) (fresh_size _) (w.newNotF (fresh_size _)) (w.newNotX (fresh_size _)) (Heap.get?_push_size _ rfl) z (q.mono (fun _ h => h) fun _ _ _ e => Heap.get?_push_of_some _ e)
theorem EnvOK.step (x : Step cx F s F' s') (w : Wd cx F s) (e : EnvOK cx ε env F s.heap ρ ad m cm) : EnvOK cx ε env F' s'.heap ρ ad m cm :=
  ⟨e.kind, e.names, e.glob, e.blt, e.code, e.lx, e.cxx, e.ns.at' fun o g => x.keep _ o g e.lx, fun n c hc => let ⟨o, g, d⟩ := e.cells n c hc; ⟨o, x.keep _ o g (e.cxx n c hc), d⟩,
    fun y i hy => (e.vars y i hy).imp (fun ⟨k, q⟩ => ⟨k, q.step x w⟩) fun ⟨k, c, q⟩ => ⟨k, c, q.step x w⟩⟩
end
noncomputable def FnAt (cx : XCx) (f : Nat) : Prop := ∃ o fd, cx.h0.get? (cx.fa f) = some o ∧ o.data = .func fd ∧ ¬ cx.X (cx.fa f)
noncomputable def CallOK (cx : XCx) (n : Nat) (cf : Nat → List D → Option D) : Prop :=
  ∀ f args d, cf f args = some d → FnAt cx f ∧ ∀ A F s vs, Bud n A → Wd cx F s → RepL cx.T F s.heap vs args → ∀ (Rs : Result → Shared → Prop), (∀ v F' s', Step cx F s F' s' → Rep cx.T F' s'.heap v d → Rs (.ok (.ret v)) s') →
    codeAny (model cx.prog cx.w) A (.call (.ref (cx.fa f)) ⟨vs, []⟩) Rs s
set_option genInjectivity false in
structure Here (cx : XCx) (ε : Sc) (n : Nat) (cf : Nat → List D → Option D) (A : Around) (env : Env) (F : Addr → Prop) (s : Shared) (ρ : List Slot) (ad : Nat → Addr) (m cm : Str → Option Value) : Prop where
  ok : CxOk cx
  calls : CallOK cx n cf
  bud : BudE n A
  wd : Wd cx F s
  env : EnvOK cx ε env F s.heap ρ ad m cm
theorem Here.step {cx : XCx} {ε : Sc} {n : Nat} {cf : Nat → List D → Option D} {A : Around} {env : Env} {F F' : Addr → Prop} {s s' : Shared} {ρ : List Slot} {ad : Nat → Addr} {m cm : Str → Option Value}
    (H : Here cx ε n cf A env F s ρ ad m cm) (x : Step cx F s F' s') : Here cx ε n cf A env F' s' ρ ad m cm := ⟨H.ok, H.calls, H.bud, x.wd, H.env.step x H.wd⟩
noncomputable def SoundE (cx : XCx) (ε : Sc) (e : Expr) (x : X) : Prop :=
  ∀ n cf A env F s ρ ad m cm, Here cx ε n cf A env F s ρ ad m cm → ∀ r, ev cf x ρ = some [r] → Ev cx A F s (eval e env) r
noncomputable def SoundT (cx : XCx) (ε : Sc) (e : Expr) (x : X) : Prop :=
  ∀ n cf A env F s ρ ad m cm, Here cx ε n cf A env F s ρ ad m cm → ∀ b, evT cf x ρ = some b → EvB cx A F s (isTrue e env (eval e env)) b
set_option genInjectivity false in
structure Sound (cx : XCx) (ε : Sc) (e : Expr) (x : X) : Prop where
  ev : SoundE cx ε e x
  tr : SoundT cx ε e x
section
variable {cx : XCx} {A : Around} {F F' : Addr → Prop} {s s' : Shared} {t : Sem Value} {r : R}
theorem Ev.here (w : Wd cx F s) {v : Value} (q : RepR cx F s.heap s.heap v r) : Ev cx A F s (pure v) r := fun _ _ h => wpAny_pure (h v F s (Step.refl w) q)
theorem Post.after {Q : Value → Shared → Prop} (x : Step cx F s F' s') (h : Post cx F s r Q) : Post cx F' s' r Q := fun v F'' s'' y q => h v F'' s'' (x.trans y) (q.low x)
theorem Ev.bind {α : Type} {k : Value → Sem α} {Q : α → Shared → Prop} {E : Value → Shared → Prop} (h : Ev cx A F s t r)
    (g : ∀ v F' s', Step cx F s F' s' → RepR cx F' s.heap s'.heap v r → wpAny (model cx.prog cx.w) A (k v) Q E s') : wpAny (model cx.prog cx.w) A (t >>= k) Q E s :=
  wpAny_bind (h _ _ g)
end
end Mine
end MpCx
section MpDx
open PySem PySem.Calls PyProof.Rows
namespace Mine
inductive EvOp (cf : Nat → List D → Option D) (ρ : List Slot) (o : Op) (a : X) (r : R) : Prop
  | mk (rs : List R) (e : ev cf a ρ = some rs) (h : opF o (rs.map R.ds) = some r)
inductive EvCons (cf : Nat → List D → Option D) (ρ : List Slot) (a b : X) (rs : List R) : Prop
  | mk (x : R) (xs : List R) (ea : ev cf a ρ = some [x]) (eb : ev cf b ρ = some xs) (e : rs = x :: xs)
inductive ListInv (cx : XCx) (F : Addr → Prop) (h : Heap) (v : Value) (l : List D) : Prop
  | mk (a : Addr) (vs : List Value) (n : Nat) (e : v = .ref a) (nx : ¬ cx.X a) (g : h.get? a = some (lobj vs.toArray n)) (z : vs.length ≤ lim) (q : RepL cx.T F h vs l)
inductive TupInv (cx : XCx) (F : Addr → Prop) (h : Heap) (v : Value) (l : List D) : Prop
  | mk (a : Addr) (vs : List Value) (n : Nat) (e : v = .ref a) (f : F a) (g : h.get? a = some (tobj vs.toArray n)) (z : vs.length ≤ lim) (q : RepL cx.T F h vs l)
inductive StrInv (v : Value) (l : List Nat) : Prop
  | mk (t : Tok) (e : v = .str ⟨l.toArray⟩ t) (p : ∀ c ∈ l, c < 0x110000) (z : l.length ≤ lim)
inductive TwoInv (cx : XCx) (F : Addr → Prop) (h : Heap) (vs : List Value) (a b : D) : Prop
  | mk (x y : Value) (e : vs = [x, y]) (qa : BRep cx F h x a) (qb : BRep cx F h y b)
section
variable {cf : Nat → List D → Option D} {ρ : List Slot}
theorem ev_op {o : Op} {a : X} {r : R} (h : ev cf (.op o a) ρ = some [r]) : EvOp cf ρ o a r := by
  replace h := (evq_op _).symm.trans h
  split at h
  · rename_i rs e
    obtain ⟨r', e', h'⟩ := Option.map_eq_some_iff.mp h
    cases h'
    exact ⟨rs, e, e'⟩
  · cases h
theorem ev_cons {a b : X} {rs : List R} (h : ev cf (.cons a b) ρ = some rs) : EvCons cf ρ a b rs := by
  replace h := (evq_cons _).symm.trans h
  split at h
  · rename_i x e
    obtain ⟨xs, e', h'⟩ := Option.map_eq_some_iff.mp h
    exact ⟨x, xs, e, e', h'.symm⟩
  · cases h
theorem ev_nil {rs : List R} (h : ev cf .nil ρ = some rs) : rs = [] := by replace h := (evq_nil _).symm.trans h; cases h; rfl
end
noncomputable def op1 (f : Value → Sem Value) : List Value → Sem Value
  | [a] => f a
  | _ => unsupported "mine"
noncomputable def op2 (f : Value → Value → Sem Value) : List Value → Sem Value
  | [a, b] => f a b
  | _ => unsupported "mine"
noncomputable def OpOK (cx : XCx) (o : Op) (t : List Value → Sem Value) : Prop :=
  ∀ n A F s vs ds r, CxOk cx → BudE n A → Wd cx F s → BRepL cx F s.heap vs ds → opF o ds = some r → Ev cx A F s (t vs) r
theorem sz_lt {n : Nat} (h : n ≤ lim) : (n : Int) < 2 ^ 63 := by unfold lim at h; omega
theorem sz_line {n : Nat} (h : n ≤ lim) : n ≤ sizeLine := by rw [sizeLine_eq]; unfold lim at h; omega
section
variable {cx : XCx} {F : Addr → Prop} {s : Shared} {h : Heap} {v : Value} {A : Around}
theorem isList_of {a : Addr} {vs : List Value} {n : Nat} (g : h.get? a = some (lobj vs.toArray n)) : h.IsList a vs.toArray := ⟨_, g, rfl, n, rfl⟩
theorem isTup_of {a : Addr} {vs : List Value} {n : Nat} (g : h.get? a = some (tobj vs.toArray n)) : IsTup h a vs.toArray := ⟨_, g, rfl, n, rfl⟩
theorem BRep.list_inv (w : Wd cx F s) {l : List D} (b : BRep cx F s.heap v (.list l)) : ListInv cx F s.heap v l := by
  cases b with
  | rep q =>
    cases q with
    | list f g z q => exact ⟨_, _, _, rfl, w.nx _ f, g, z, q⟩
  | own nx g z q => exact ⟨_, _, _, rfl, nx, g, z, q⟩
theorem BRep.tup_inv {l : List D} (b : BRep cx F h v (.tup l)) : TupInv cx F h v l := by
  cases b with
  | rep q =>
    cases q with
    | tup f g z q => exact ⟨_, _, _, rfl, f, g, z, q⟩
theorem BRep.str_inv {l : List Nat} (b : BRep cx F h v (.str l)) : StrInv v l := by
  cases b with
  | rep q => cases q with | str t p z => exact ⟨t, rfl, p, z⟩
theorem BRep.int_inv {i : Int} (b : BRep cx F h v (.int i)) : ∃ t, v = .int i t := by
  cases b with
  | rep q => cases q with | int _ t => exact ⟨t, rfl⟩
theorem BRep.bool_inv {i : Bool} (b : BRep cx F h v (.bool i)) : v = .bool i := by
  cases b with
  | rep q => cases q with | bool _ => rfl
theorem BRep.none_inv (b : BRep cx F h v .none) : v = .none := by
  cases b with
  | rep q => cases q with | none => rfl
theorem BRep.ty_inv {n : String} (b : BRep cx F h v (.ty n)) : v = .type n := by
  cases b with
  | rep q => cases q with | ty _ => rfl
theorem BRepL.two {vs : List Value} {a b : D} (q : BRepL cx F h vs [a, b]) : TwoInv cx F h vs a b := by
  cases q with
  | cons p q => cases q with | cons p' q => cases q; exact ⟨_, _, rfl, p, p'⟩
theorem BRepL.one {vs : List Value} {a : D} (q : BRepL cx F h vs [a]) : ∃ x, vs = [x] ∧ BRep cx F h x a := by
  cases q with
  | cons p q => cases q; exact ⟨_, rfl, p⟩
theorem truthy_ok (w : Wd cx F s) {d : D} {b : Bool} (q : BRep cx F s.heap v d) (e : d.truth = some b) : EvB cx A F s (truthy v) b := by
  intro Q E hQ
  cases d with
  | none => cases e; rw [q.none_inv]; exact PyProof.Rows.truthy_none (hQ F s (Step.refl w))
  | bool b => cases e; rw [q.bool_inv]; exact wpAny_truthy_bool (hQ F s (Step.refl w))
  | int i =>
    obtain ⟨t, rfl⟩ := q.int_inv
    cases e
    refine PyProof.Rows.truthy_int ?_
    have := hQ F s (Step.refl w)
    by_cases hi : i = 0
    · subst hi; exact this
    · have e1 : (i != 0) = true := bne_iff_ne.mpr hi
      rw [e1]
      simpa [hi] using this
  | str l =>
    obtain ⟨t, rfl, p, z⟩ := q.str_inv
    cases e
    refine P.truthy_str (by have := sz_lt z; show ¬ ((l.toArray.size : Nat) : Int) ≥ 2 ^ 63; rw [List.size_toArray]; omega) ?_
    have e : (((PySem.Str.mk l.toArray).length : Int) != 0) = !l.isEmpty := by
      show (((l.toArray.size : Nat) : Int) != 0) = _
      rw [List.size_toArray]
      cases l <;> simp <;> omega
    rw [e]
    exact hQ F _ ((Step.refl w).toks _)
  | list l =>
    obtain ⟨a, vs, n, rfl, nx, g, z, ql⟩ := q.list_inv w
    cases e
    refine wpAny_truthy_list (isList_of g) (by rw [List.size_toArray]; exact sz_lt z) ?_
    have e : (!vs.toArray.isEmpty) = !l.isEmpty := by
      have := ql.length
      clear q
      cases vs <;> cases l <;> simp_all
    rw [e]
    exact hQ F _ ((Step.refl w).toks _)
  | tup l =>
    obtain ⟨a, vs, n, rfl, f, g, z, ql⟩ := q.tup_inv
    cases e
    refine PyProof.Rows.truthy_tuple (isTup_of g) (by rw [List.size_toArray]; exact sz_lt z) ?_
    have e : (!vs.toArray.isEmpty) = !l.isEmpty := by
      have := ql.length
      clear q
      cases vs <;> cases l <;> simp_all
    rw [e]
    exact hQ F _ ((Step.refl w).toks _)
  | tok k => cases e
  | ty n => cases e
end
section
variable {cx : XCx} {ε : Sc}
theorem SoundT.ofE {e : Expr} {x : X} (h : SoundE cx ε e x) (hf : ∀ env, isTrue e env (eval e env) = (do let v ← eval e env; standAt e.pos; holding [v] (truthy v))) : SoundT cx ε e x := by
  intro n cf A env F s ρ ad m cm H b hb Q E hQ
  unfold evT truthR at hb
  split at hb
  · rename_i r e
    rw [hf]
    refine Ev.bind (h n cf A env F s ρ ad m cm H r e) fun v F' s' st q => ?_
    exact wpAny_bind (wpAny_standAt (wpAny_holding (truthy_ok st.wd q.brep hb _ _ fun F'' s'' st' => hQ F'' s'' (st.trans st'))))
  · cases hb
theorem Sound.ofE {e : Expr} {x : X} (h : SoundE cx ε e x) (hf : ∀ env, isTrue e env (eval e env) = (do let v ← eval e env; standAt e.pos; holding [v] (truthy v))) : Sound cx ε e x := ⟨h, SoundT.ofE h hf⟩
noncomputable def constD : Const → Option D
  | .none => some .none
  | .bool b => some (.bool b)
  | .int i => some (.int i)
  | .str x => if x.cps.toList.all (fun c => decide (c < 0x110000)) && decide (x.cps.size ≤ lim) then some (.str x.cps.toList) else none
  | _ => none
theorem sound_const {c : Const} {k : Nat} {pos : Pos} {d : D} (hd : constD c = some d) : Sound cx ε (.Constant c k pos) (.const d) := by
  refine Sound.ofE ?_ fun _ => rfl
  intro n cf A env F s ρ ad m cm H r hr Q E hQ
  replace hr := (evq_const _).symm.trans hr
  cases hr
  cases c <;> try cases hd
  · exact wpAny_pure (hQ _ F s (Step.refl H.wd) (.val .none))
  · exact wpAny_pure (hQ _ F s (Step.refl H.wd) (.val (.bool _)))
  · exact wpAny_Constant_int (hQ _ F _ ((Step.refl H.wd).toks _) (.val (.int _ _)))
  · rename_i x
    replace hd : (if (x.cps.toList.all (fun c => decide (c < 0x110000)) && decide (x.cps.size ≤ lim)) = true then some (D.str x.cps.toList) else none) = some d := hd
    split at hd
    · rename_i q
      cases hd
      simp only [Bool.and_eq_true, List.all_eq_true, decide_eq_true_eq] at q
      refine Calls.Constant_str (hQ _ F _ ((Step.refl H.wd).toks _) (.val ?_))
      exact Rep.str (l := x.cps.toList) _ q.1 (by rw [Array.length_toList]; exact q.2)
    · cases hd
theorem load_var {n cf A env F s ρ ad m cm} (H : Here cx ε n cf A env F s ρ ad m cm) {x : Str} {i : Nat} (hv : ε.vars.lookup x = some i) (hn : (x == ("__classdict__" : Str)) = false) {Q : Value → Shared → Prop} {E : Value → Shared → Prop}
    (h : ∀ v, SlotRep cx F s.heap ad i (some v) (slotAt ρ i) → Q v s) (hs : slotAt ρ i ≠ .unset) : wpAny (model cx.prog cx.w) A (loadName env x) Q E s := by
  have hk : env.scope.kind = .function := H.env.kind
  have key : ∀ {ov : Option Value}, SlotRep cx F s.heap ad i ov (slotAt ρ i) → ∃ v, ov = some v ∧ SlotRep cx F s.heap ad i (some v) (slotAt ρ i) := by
    intro ov q
    generalize slotAt ρ i = sl at *
    cases q with
    | unset => exact absurd rfl hs
    | val q => exact ⟨_, rfl, .val q⟩
    | own a b c d q => exact ⟨_, rfl, .own a b c d q⟩
    | app a b c => exact ⟨_, rfl, .app a b c⟩
  rcases H.env.vars x i hv with ⟨k, q⟩ | ⟨k, ⟨c, hc⟩, q⟩
  · obtain ⟨v, e, q'⟩ := key q
    exact wpAny_loadName_local hk (by unfold Env.kindOf; rw [H.env.names]; exact k) H.env.ns e (h v q')
  · obtain ⟨v, e, q'⟩ := key q
    have hcell := H.env.cells x c hc
    rw [e] at hcell
    rcases k with k | k
    · exact wpAny_loadName_cell hk (by unfold Env.kindOf; rw [H.env.names]; exact k) hc hcell (h v q')
    · exact wpAny_loadName_free hk (by unfold Env.kindOf; rw [H.env.names]; exact k) hc hcell (h v q') hn
theorem sound_var {x : Str} {i : Nat} {pos : Pos} (hv : ε.vars.lookup x = some i) (hn : (x == ("__classdict__" : Str)) = false) (hd : (x == ("__debug__" : Str)) = false) : Sound cx ε (.Name x pos) (.var i) := by
  refine Sound.ofE ?_ fun _ => rfl
  intro n cf A env F s ρ ad m cm H r hr Q E hQ
  refine wpAny_Name ?_ hd
  replace hr := (evq_var _).symm.trans hr
  have hr' : ∀ sl, ρ[i]? = some sl → slotAt ρ i = sl := fun sl e => by unfold slotAt; simp [List.getD, e]
  cases hs : ρ[i]? with
  | none => rw [hs] at hr; cases hr
  | some sl =>
    rw [hs] at hr
    have hsl := hr' sl hs
    refine load_var H hv hn (fun v q => ?_) (by rw [hsl]; intro e; subst e; cases hr)
    rw [hsl] at q
    cases q with
    | unset => cases hr
    | val q => cases hr; exact hQ v F s (Step.refl H.wd) (.val q)
    | own nf nx g z q => cases hr; exact hQ _ F s (Step.refl H.wd) (.bor nx g z q)
    | app a b c => cases hr
theorem run2 {n cf A env F s ρ ad m cm} (H : Here cx ε n cf A env F s ρ ad m cm) {l r : Expr} {xl xr : X} {o : Op} {res : R} {f : Value → Value → Sem Value} (hl : SoundE cx ε l xl) (hr : SoundE cx ε r xr) (ho : OpOK cx o (op2 f))
    (he : ev cf (.op o (.cons xl (.cons xr .nil))) ρ = some [res]) {Q : Value → Shared → Prop} {E : Value → Shared → Prop} (hQ : Post cx F s res Q) :
    wpAny (model cx.prog cx.w) A (eval l env) (fun a s₁ => wpAny (model cx.prog cx.w) A (eval r env) (fun b s₂ => wpAny (model cx.prog cx.w) A (f a b) Q E s₂) E s₁) E s := by
  obtain ⟨rs, h1, h2⟩ := ev_op he
  obtain ⟨ra, xs, ha, h3, rfl⟩ := ev_cons h1
  obtain ⟨rb, ys, hb, h4, rfl⟩ := ev_cons h3
  cases ev_nil h4
  refine hl n cf A env F s ρ ad m cm H ra ha _ _ fun a F' s' st qa => ?_
  refine hr n cf A env F' s' ρ ad m cm (H.step st) rb hb _ _ fun b F'' s'' st' qb => ?_
  exact ho n A F'' s'' [a, b] _ res H.ok H.bud st'.wd (.cons (st'.brep st.wd qa.brep) (.cons qb.brep .nil)) h2 _ _ (hQ.after (st.trans st'))
theorem sound_bin {l r : Expr} {op : Operator} {pos : Pos} {xl xr : X} {o : Op} (hl : Sound cx ε l xl) (hr : Sound cx ε r xr) (ho : OpOK cx o (op2 (binaryOp op))) : Sound cx ε (.BinOp l op r pos) (.op o (.cons xl (.cons xr .nil))) := by
  refine Sound.ofE ?_ fun _ => rfl
  intro n cf A env F s ρ ad m cm H res he Q E hQ
  exact wpAny_BinOp (run2 H hl.ev hr.ev ho he hQ)
theorem sound_cmp {l r : Expr} {op : CmpOp} {pos : Pos} {xl xr : X} {o : Op} (hl : Sound cx ε l xl) (hr : Sound cx ε r xr) (ho : OpOK cx o (op2 (compareOp op))) (hm : behindInMarks op r = false) : Sound cx ε (.Compare l [op] [r] pos) (.op o (.cons xl (.cons xr .nil))) := by
  have hE : SoundE cx ε (.Compare l [op] [r] pos) (.op o (.cons xl (.cons xr .nil))) := by
    intro n cf A env F s ρ ad m cm H res he Q E hQ
    exact wpAny_Compare1 (run2 H hl.ev hr.ev ho he hQ) hm
  refine ⟨hE, ?_⟩
  intro n cf A env F s ρ ad m cm H b hb Q E hQ
  unfold evT truthR at hb
  split at hb
  · rename_i res e
    refine wpAny_isTrue_Compare1 (run2 H hl.ev hr.ev ho e fun v F' s' st q => ?_) hm
    exact truthy_ok st.wd q.brep hb _ _ fun F'' s'' st' => hQ F'' s'' (st.trans st')
  · cases hb
theorem sound_un {e : Expr} {op : UnaryOp} {pos : Pos} {x : X} {o : Op} (h : Sound cx ε e x) (ho : OpOK cx o (op1 (unaryOp op))) (hn : op ≠ .Not) : Sound cx ε (.UnaryOp op e pos) (.op o (.cons x .nil)) := by
  refine Sound.ofE ?_ fun _ => by cases op <;> first | rfl | exact absurd rfl hn
  intro n cf A env F s ρ ad m cm H res he Q E hQ
  obtain ⟨rs, h1, h2⟩ := ev_op he
  obtain ⟨ra, xs, ha, h3, rfl⟩ := ev_cons h1
  cases ev_nil h3
  show wpAny _ _ (do let v ← eval e env; standAt pos; holding [v] (unaryOp op v)) Q E s
  refine Ev.bind (h.ev n cf A env F s ρ ad m cm H ra ha) fun a F' s' st qa => ?_
  refine wpAny_bind (wpAny_standAt (wpAny_holding ?_))
  exact ho n A F' s' [a] _ res H.ok H.bud st.wd (.cons qa.brep .nil) h2 _ _ (hQ.after st)
theorem sound_not {e : Expr} {pos : Pos} {x : X} (h : Sound cx ε e x) : Sound cx ε (.UnaryOp .Not e pos) (.not x) := by
  constructor
  · intro n cf A env F s ρ ad m cm H res he Q E hQ
    replace he := (evq_not _).symm.trans he
    split at he
    · rename_i r e1
      obtain ⟨b, hb, h2⟩ := Option.map_eq_some_iff.mp he
      cases h2
      show wpAny _ _ (do let v ← eval e env; standAt pos; holding [v] (unaryOp .Not v)) Q E s
      refine Ev.bind (h.ev n cf A env F s ρ ad m cm H r e1) fun a F' s' st qa => ?_
      refine wpAny_bind (wpAny_standAt (wpAny_holding ?_))
      exact not_of (truthy_ok st.wd qa.brep hb _ _ fun F'' s'' st' => hQ _ F'' s'' (st.trans st') (.val (.bool _)))
    · cases he
  · intro n cf A env F s ρ ad m cm H b hb Q E hQ
    unfold evT truthR at hb
    split at hb
    · rename_i res e1
      replace e1 := (evq_not _).symm.trans e1
      split at e1
      · rename_i r e2
        obtain ⟨b', hb', h2⟩ := Option.map_eq_some_iff.mp e1
        cases h2
        simp only [R.ds, D.truth, Option.some.injEq] at hb
        subst hb
        show wpAny _ _ (do return !(← isTrue e env (eval e env))) Q E s
        refine wpAny_bind (h.tr n cf A env F s ρ ad m cm H b' (by unfold evT truthR; rw [e2]; exact hb') _ _ fun F' s' st => ?_)
        exact wpAny_pure (hQ F' s' st)
      · cases e1
    · cases hb
theorem sound_ite {c t f : Expr} {pos : Pos} {xc xt xf : X} (hc : Sound cx ε c xc) (ht : Sound cx ε t xt) (hf : Sound cx ε f xf) : Sound cx ε (.IfExp c t f pos) (.ite xc xt xf) := by
  constructor
  · intro n cf A env F s ρ ad m cm H res he Q E hQ
    replace he := (evq_ite _).symm.trans he
    show wpAny _ _ (do if ← isTrue c env (eval c env) then eval t env else eval f env) Q E s
    split at he
    · rename_i hb
      refine wpAny_bind (hc.tr n cf A env F s ρ ad m cm H true hb _ _ fun F' s' st => ?_)
      exact ht.ev n cf A env F' s' ρ ad m cm (H.step st) res he _ _ (hQ.after st)
    · rename_i hb
      refine wpAny_bind (hc.tr n cf A env F s ρ ad m cm H false hb _ _ fun F' s' st => ?_)
      exact hf.ev n cf A env F' s' ρ ad m cm (H.step st) res he _ _ (hQ.after st)
    · cases he
  · intro n cf A env F s ρ ad m cm H b hb Q E hQ
    unfold evT at hb
    have he : ev cf (.ite xc xt xf) ρ = ev cf (.ite xc xt xf) ρ := rfl
    show wpAny _ _ (do if ← isTrue c env (eval c env) then isTrue t env (eval t env) else isTrue f env (eval f env)) Q E s
    rw [evq_ite] at hb
    split at hb
    · rename_i hb'
      refine wpAny_bind (hc.tr n cf A env F s ρ ad m cm H true hb' _ _ fun F' s' st => ?_)
      exact ht.tr n cf A env F' s' ρ ad m cm (H.step st) b hb _ _ fun F'' s'' st' => hQ F'' s'' (st.trans st')
    · rename_i hb'
      refine wpAny_bind (hc.tr n cf A env F s ρ ad m cm H false hb' _ _ fun F' s' st => ?_)
      exact hf.tr n cf A env F' s' ρ ad m cm (H.step st) b hb _ _ fun F'' s'' st' => hQ F'' s'' (st.trans st')
    · cases hb
inductive SoundB (cx : XCx) (ε : Sc) : BoolOp → List Expr → X → Prop
  | one {op : BoolOp} {e : Expr} {x : X} : Sound cx ε e x → SoundB cx ε op [e] x
  | and {e : Expr} {x : X} {es : List Expr} {y : X} : Sound cx ε e x → SoundB cx ε .And es y → SoundB cx ε .And (e :: es) (.and x y)
  | or {e : Expr} {x : X} {es : List Expr} {y : X} : Sound cx ε e x → SoundB cx ε .Or es y → SoundB cx ε .Or (e :: es) (.or x y)
theorem SoundB.ne {op : BoolOp} {es : List Expr} {x : X} (h : SoundB cx ε op es x) : ∃ e r, es = e :: r := by cases h <;> exact ⟨_, _, rfl⟩
theorem boolOp_cons {pos : Pos} {op : BoolOp} {x y : Sem Value} {r : List (Sem Value)} : boolOp pos op (x :: y :: r) = (do
    let v ← x
    standAt pos
    let t ← holding [v] (truthy v)
    match op, t with
    | .And, false | .Or, true => pure v
    | _, _ => boolOp pos op (y :: r)) := rfl
theorem boolOp_ok {n cf A env} {pos : Pos} {op : BoolOp} {es : List Expr} {x : X} (h : SoundB cx ε op es x) :
    ∀ F s ρ ad m cm, Here cx ε n cf A env F s ρ ad m cm → ∀ r, ev cf x ρ = some [r] → Ev cx A F s (boolOp pos op (evalEach es env)) r := by
  induction h with
  | one h => intro F s ρ ad m cm H r hr; exact h.ev n cf A env F s ρ ad m cm H r hr
  | @and e x es y h1 h2 ih =>
    intro F s ρ ad m cm H r hr Q E hQ
    obtain ⟨e2, r2, rfl⟩ := h2.ne
    show wpAny _ _ (boolOp pos .And (eval e env :: eval e2 env :: evalEach r2 env)) Q E s
    rw [boolOp_cons]
    replace hr := (evq_and _).symm.trans hr
    split at hr
    · rename_i x1 e1
      refine Ev.bind (h1.ev n cf A env F s ρ ad m cm H x1 e1) fun v F' s' st q => ?_
      refine wpAny_bind (wpAny_standAt (wpAny_bind (wpAny_holding ?_)))
      split at hr
      · rename_i hb
        refine truthy_ok st.wd q.brep hb _ _ fun F'' s'' st' => ?_
        exact ih F'' s'' ρ ad m cm ((H.step st).step st') r hr _ _ (hQ.after (st.trans st'))
      · rename_i hb
        cases hr
        refine truthy_ok st.wd q.brep hb _ _ fun F'' s'' st' => ?_
        exact wpAny_pure (hQ v F'' s'' (st.trans st') (q.step st' st.wd))
      · cases hr
    · cases hr
  | @or e x es y h1 h2 ih =>
    intro F s ρ ad m cm H r hr Q E hQ
    obtain ⟨e2, r2, rfl⟩ := h2.ne
    show wpAny _ _ (boolOp pos .Or (eval e env :: eval e2 env :: evalEach r2 env)) Q E s
    rw [boolOp_cons]
    replace hr := (evq_or _).symm.trans hr
    split at hr
    · rename_i x1 e1
      refine Ev.bind (h1.ev n cf A env F s ρ ad m cm H x1 e1) fun v F' s' st q => ?_
      refine wpAny_bind (wpAny_standAt (wpAny_bind (wpAny_holding ?_)))
      split at hr
      · rename_i hb
        refine truthy_ok st.wd q.brep hb _ _ fun F'' s'' st' => ?_
        exact ih F'' s'' ρ ad m cm ((H.step st).step st') r hr _ _ (hQ.after (st.trans st'))
      · rename_i hb
        cases hr
        refine truthy_ok st.wd q.brep hb _ _ fun F'' s'' st' => ?_
        exact wpAny_pure (hQ v F'' s'' (st.trans st') (q.step st' st.wd))
      · cases hr
    · cases hr
theorem allTrue_ok {n cf A env} {op : BoolOp} {es : List Expr} {x : X} (h : SoundB cx ε op es x) :
    ∀ F s ρ ad m cm, Here cx ε n cf A env F s ρ ad m cm → ∀ b, evT cf x ρ = some b → EvB cx A F s (allTrue op es env) b := by
  induction h with
  | @one op e x h =>
    intro F s ρ ad m cm H b hb Q E hQ
    show wpAny _ _ (do
      match op, ← isTrue e env (eval e env) with
      | .And, false => pure false
      | .Or, true => pure true
      | _, _ => allTrue op [] env) Q E s
    refine wpAny_bind (h.tr n cf A env F s ρ ad m cm H b hb _ _ fun F' s' st => ?_)
    cases op <;> cases b <;> exact wpAny_pure (hQ F' s' st)
  | @and e x es y h1 h2 ih =>
    intro F s ρ ad m cm H b hb Q E hQ
    show wpAny _ _ (do
      match BoolOp.And, ← isTrue e env (eval e env) with
      | .And, false => pure false
      | .Or, true => pure true
      | _, _ => allTrue .And es env) Q E s
    unfold evT at hb
    rw [evq_and] at hb
    split at hb
    · rename_i x1 e1
      split at hb
      · rename_i hb'
        refine wpAny_bind (h1.tr n cf A env F s ρ ad m cm H true (by unfold evT truthR; rw [e1]; exact hb') _ _ fun F' s' st => ?_)
        exact ih F' s' ρ ad m cm (H.step st) b hb _ _ fun F'' s'' st' => hQ F'' s'' (st.trans st')
      · rename_i hb'
        refine wpAny_bind (h1.tr n cf A env F s ρ ad m cm H false (by unfold evT truthR; rw [e1]; exact hb') _ _ fun F' s' st => ?_)
        have : b = false := by
          have : some b = some false := hb.symm.trans hb'
          cases this; rfl
        subst this
        exact wpAny_pure (hQ F' s' st)
      · cases hb
    · cases hb
  | @or e x es y h1 h2 ih =>
    intro F s ρ ad m cm H b hb Q E hQ
    show wpAny _ _ (do
      match BoolOp.Or, ← isTrue e env (eval e env) with
      | .And, false => pure false
      | .Or, true => pure true
      | _, _ => allTrue .Or es env) Q E s
    unfold evT at hb
    rw [evq_or] at hb
    split at hb
    · rename_i x1 e1
      split at hb
      · rename_i hb'
        refine wpAny_bind (h1.tr n cf A env F s ρ ad m cm H false (by unfold evT truthR; rw [e1]; exact hb') _ _ fun F' s' st => ?_)
        exact ih F' s' ρ ad m cm (H.step st) b hb _ _ fun F'' s'' st' => hQ F'' s'' (st.trans st')
      · rename_i hb'
        refine wpAny_bind (h1.tr n cf A env F s ρ ad m cm H true (by unfold evT truthR; rw [e1]; exact hb') _ _ fun F' s' st => ?_)
        have : b = true := by
          have : some b = some true := hb.symm.trans hb'
          cases this; rfl
        subst this
        exact wpAny_pure (hQ F' s' st)
      · cases hb
    · cases hb
theorem sound_bool {op : BoolOp} {es : List Expr} {x : X} {pos : Pos} (h : SoundB cx ε op es x) : Sound cx ε (.BoolOp op es pos) x :=
  ⟨fun _ _ _ _ F s ρ ad m cm H r hr => boolOp_ok h F s ρ ad m cm H r hr, fun _ _ _ _ F s ρ ad m cm H b hb => allTrue_ok h F s ρ ad m cm H b hb⟩
end
end Mine
end MpDx
section MpEx
open PySem PySem.Calls PyProof.Rows
namespace Mine
section
variable {cx : XCx}
theorem op_add : OpOK cx .add (op2 (binaryOp .Add)) := by
  intro n A F s vs ds r ok bud w q he Q E hQ
  replace he : opAdd ds = some r := he
  rcases ds with _ | ⟨a0, t0⟩
  · cases he
  cases a0 <;> try (cases he; done)
  all_goals
    rcases t0 with _ | ⟨a1, t1⟩
    · cases he
    cases a1 <;> try (cases he; done)
    rcases t1 with _ | ⟨a2, t2⟩ <;> try (cases he; done)
  · cases he
    obtain ⟨x, y, rfl, qa, qb⟩ := q.two
    obtain ⟨t, rfl⟩ := qa.int_inv
    obtain ⟨u, rfl⟩ := qb.int_inv
    exact P.add_int (hQ _ F _ ((Step.refl w).toks _) (.val (.int _ _)))
  · rename_i a b
    replace he : (if a.length + b.length ≤ lim then some (R.val (.str (a ++ b))) else none) = some r := he
    split at he <;> cases he
    rename_i hl
    obtain ⟨x, y, rfl, qa, qb⟩ := q.two
    obtain ⟨t, rfl, pa, za⟩ := qa.str_inv
    obtain ⟨u, rfl, pb, zb⟩ := qb.str_inv
    refine PyProof.Rows.add_str (fun t' tk => hQ _ F _ ((Step.refl w).toks _) (.val ?_)) (by
      show a.toArray.size + b.toArray.size ≤ sizeLine
      rw [List.size_toArray, List.size_toArray]; exact sz_line hl)
    have e : (PySem.Str.mk a.toArray ++ PySem.Str.mk b.toArray) = PySem.Str.mk (a ++ b).toArray := by
      show PySem.Str.mk (a.toArray ++ b.toArray) = _
      simp
    rw [e]
    exact .str _ (fun c hc => (List.mem_append.mp hc).elim (pa c) (pb c)) (by rw [List.length_append]; exact hl)
  · rename_i a b
    replace he : (if a.length + b.length ≤ lim then some (R.own (a ++ b)) else none) = some r := he
    split at he <;> cases he
    rename_i hl
    obtain ⟨x, y, rfl, qa, qb⟩ := q.two
    obtain ⟨l, vs, k, rfl, nx, g, z, q1⟩ := qa.list_inv w
    obtain ⟨l', vs', k', rfl, nx', g', z', q2⟩ := qb.list_inv w
    have hz : vs.length + vs'.length ≤ lim := by rw [q1.length, q2.length]; exact hl
    have e : vs.toArray ++ vs'.toArray = (vs ++ vs').toArray := by simp
    refine concat_meets ⟨_, g, rfl⟩ ⟨_, g', rfl⟩ noFill_list_add seq_list_add PySem.F.slot_list_add PySem.F.entry_list_add (PySem.F.args_list_add_2 _ _) (list_addW l l' vs.toArray vs'.toArray k k' none none #[] #[] (by simpa using sz_line hz)) ⟨g, g', ?_⟩
    rw [e]
    refine hQ _ F _ (Step.push ok w _ _) (.pushOwn w (by rw [List.length_append]; exact hz) (q1.append q2))
theorem op_sub : OpOK cx .sub (op2 (binaryOp .Sub)) := by
  intro n A F s vs ds r ok bud w q he Q E hQ
  delta opF at he; dsimp only at he
  unfold opSub at he
  split at he <;> cases he
  obtain ⟨x, y, rfl, qa, qb⟩ := q.two
  obtain ⟨t, rfl⟩ := qa.int_inv
  obtain ⟨u, rfl⟩ := qb.int_inv
  exact P.sub_int (hQ _ F _ ((Step.refl w).toks _) (.val (.int _ _)))
theorem op_neg : OpOK cx .neg (op1 (unaryOp .USub)) := by
  intro n A F s vs ds r ok bud w q he Q E hQ
  delta opF at he; dsimp only at he
  unfold opNeg at he
  split at he <;> cases he
  obtain ⟨x, rfl, qa⟩ := q.one
  obtain ⟨t, rfl⟩ := qa.int_inv
  exact P.neg_int (hQ _ F _ ((Step.refl w).toks _) (.val (.int _ _)))
theorem op_div : OpOK cx .fdiv (op2 (binaryOp .FloorDiv)) := by
  intro n A F s vs ds r ok bud w q he Q E hQ
  delta opF at he; dsimp only at he
  unfold opDiv at he
  split at he
  · rename_i a b
    split at he <;> cases he
    rename_i hb
    obtain ⟨x, y, rfl, qa, qb⟩ := q.two
    obtain ⟨t, rfl⟩ := qa.int_inv
    obtain ⟨u, rfl⟩ := qb.int_inv
    obtain ⟨env, l, e1, e2, e3, e4, e5⟩ := bud.fr
    refine PyProof.Rows.floordiv_int hb (hQ _ F _ ((Step.refl w).toks _) (.val (.int _ _))) (.inr (PylongRoom.of (w.lim ok) ?_ (SeerAt.of (ok.seer _ w.base) ok.tree e1 e2 e3 e4 e5)))
    have := bud.dp
    show A.depth + 100 < 1000
    omega
  · cases he
theorem op_mod : OpOK cx .mod (op2 (binaryOp .Mod)) := by
  intro n A F s vs ds r ok bud w q he Q E hQ
  delta opF at he; dsimp only at he
  unfold opMod at he
  split at he
  · rename_i a b
    split at he <;> cases he
    rename_i hb
    obtain ⟨x, y, rfl, qa, qb⟩ := q.two
    obtain ⟨t, rfl⟩ := qa.int_inv
    obtain ⟨u, rfl⟩ := qb.int_inv
    exact PyProof.Rows.mod_int' hb (hQ _ F _ ((Step.refl w).toks _) (.val (.int _ _)))
  · cases he
theorem cmp_ok {op : CmpOp} {f : D → D → Option Bool} {vs : List Value} {ds : List D} {F : Addr → Prop} {s : Shared} {A : Around} {r : R} (w : Wd cx F s) (q : BRepL cx F s.heap vs ds) (he : opBool f ds = some r)
    (h : ∀ x y a b c, BRep cx F s.heap x a → BRep cx F s.heap y b → f a b = some c → ∀ (Q : Value → Shared → Prop) (E : Value → Shared → Prop), (∀ k, Q (.bool c) { s with toks := k }) → wpAny (model cx.prog cx.w) A (compareOp op x y) Q E s) :
    Ev cx A F s (op2 (compareOp op) vs) r := by
  intro Q E hQ
  unfold opBool at he
  split at he
  · obtain ⟨c, hc, e⟩ := Option.map_eq_some_iff.mp he
    cases e
    obtain ⟨x, y, rfl, qa, qb⟩ := q.two
    exact h x y _ _ c qa qb hc Q E fun k => hQ _ F _ ((Step.refl w).toks k) (.val (.bool _))
  · cases he
theorem BRep.reads {F : Addr → Prop} {h : Heap} {v : Value} {d : D} {n : Nat} (q : BRep cx F h v d) (e : d.ok n = true) (hn : n ≤ 60) : (∃ as, Reads h v d.toPy as) ∧ PySem.SeqAt.shaped d.toPy = true := by
  cases q with
  | rep q => exact ⟨q.reads e, q.shaped e hn⟩
  | own nx g z q =>
    cases n with
    | zero => simp [D.ok] at e
    | succ n =>
      simp only [D.ok] at e
      obtain ⟨as, x⟩ := q.reads e
      refine ⟨⟨_, by unfold D.toPy; exact Reads.list g rfl rfl (by rw [List.toList_toArray]; exact x)⟩, ?_⟩
      have l := q.lay e
      unfold PySem.SeqAt.shaped D.toPy PyData.canLay0 PyData.depth
      rw [l.1, Bool.true_and]; exact decide_eq_true (by omega)
theorem mkStr_beq (a b : List Nat) : ((PySem.Str.mk a.toArray).cps.toList == (PySem.Str.mk b.toArray).cps.toList) = decide (a = b) := by
  show (a == b) = decide (a = b)
  by_cases h : a = b
  · subst h; simp
  · simp [h]
theorem eq_ok {F : Addr → Prop} {s : Shared} {A : Around} {n : Nat} {x y : Value} {a b : D} {c : Bool} (bud : BudE n A) (qa : BRep cx F s.heap x a) (qb : BRep cx F s.heap y b) (hc : eqD a b = some c)
    {Q : Value → Shared → Prop} {E : Value → Shared → Prop} (h : ∀ k, Q (.bool c) { s with toks := k }) : wpAny (model cx.prog cx.w) A (compareOp .Eq x y) Q E s := by
  unfold eqD at hc
  split at hc
  · cases hc
    obtain ⟨t, rfl, _, _⟩ := qa.str_inv
    obtain ⟨u, rfl, _, _⟩ := qb.str_inv
    exact P.eq_str (by rw [mkStr_beq]; exact h s.toks)
  · cases hc
    obtain ⟨t, rfl⟩ := qa.int_inv
    obtain ⟨u, rfl⟩ := qb.int_inv
    exact P.eq_int (by rw [show ∀ i j : Int, (i == j) = decide (i = j) from fun i j => rfl]; exact h s.toks)
  · split at hc <;> cases hc
    rename_i hok
    simp only [Bool.and_eq_true] at hok
    obtain ⟨⟨as, ra⟩, sa⟩ := qa.reads hok.1 (by omega)
    obtain ⟨⟨bs, rb⟩, sb⟩ := qb.reads hok.2 (by omega)
    exact PyProof.Rows.eq_dataH ra rb sa sb (by have := bud.un; show A.units + 64 < 9900; omega) (h s.toks)
theorem ne_ok {F : Addr → Prop} {s : Shared} {A : Around} {n : Nat} {x y : Value} {a b : D} {c : Bool} (bud : BudE n A) (qa : BRep cx F s.heap x a) (qb : BRep cx F s.heap y b) (hc : eqD a b = some c)
    {Q : Value → Shared → Prop} {E : Value → Shared → Prop} (h : ∀ k, Q (.bool (!c)) { s with toks := k }) : wpAny (model cx.prog cx.w) A (compareOp .NotEq x y) Q E s := by
  unfold eqD at hc
  split at hc
  · cases hc
    obtain ⟨t, rfl, _, _⟩ := qa.str_inv
    obtain ⟨u, rfl, _, _⟩ := qb.str_inv
    exact P.ne_str (by show Q (.bool (!(_ == _))) s; rw [mkStr_beq]; exact h s.toks)
  · cases hc
    obtain ⟨t, rfl⟩ := qa.int_inv
    obtain ⟨u, rfl⟩ := qb.int_inv
    exact P.ne_int (by show Q (.bool (!(_ == _))) s; exact h s.toks)
  · split at hc <;> cases hc
    rename_i hok
    simp only [Bool.and_eq_true] at hok
    obtain ⟨⟨as, ra⟩, sa⟩ := qa.reads hok.1 (by omega)
    obtain ⟨⟨bs, rb⟩, sb⟩ := qb.reads hok.2 (by omega)
    exact PyProof.Rows.ne_dataH ra rb sa sb (by have := bud.un; show A.units + 64 < 9900; omega) (h s.toks)
theorem op_eq : OpOK cx .eq (op2 (compareOp .Eq)) := by
  intro n A F s vs ds r ok bud w q he
  exact cmp_ok w q he fun x y a b c qa qb hc Q E h => eq_ok bud qa qb hc h
theorem op_ne : OpOK cx .ne (op2 (compareOp .NotEq)) := by
  intro n A F s vs ds r ok bud w q he
  refine cmp_ok w q he fun x y a b c qa qb hc Q E h => ?_
  obtain ⟨c', hc', rfl⟩ := Option.map_eq_some_iff.mp hc
  exact ne_ok bud qa qb hc' h
theorem ord_ok {op : CmpOp} {f : Int → Int → Bool} {g : List Nat → List Nat → Bool} {vs : List Value} {ds : List D} {F : Addr → Prop} {s : Shared} {A : Around} {r : R} (w : Wd cx F s) (q : BRepL cx F s.heap vs ds) (he : opCmp f g ds = some r)
    (h1 : ∀ a b t u (Q : Value → Shared → Prop) (E : Value → Shared → Prop), Q (.bool (f a b)) s → wpAny (model cx.prog cx.w) A (compareOp op (.int a t) (.int b u)) Q E s)
    (h2 : ∀ a b t u (Q : Value → Shared → Prop) (E : Value → Shared → Prop), Q (.bool (g a b)) s → wpAny (model cx.prog cx.w) A (compareOp op (.str ⟨a.toArray⟩ t) (.str ⟨b.toArray⟩ u)) Q E s) :
    Ev cx A F s (op2 (compareOp op) vs) r := by
  intro Q E hQ
  rcases ds with _ | ⟨a0, t0⟩
  · cases he
  cases a0 <;> try (cases he; done)
  all_goals
    rcases t0 with _ | ⟨a1, t1⟩
    · cases he
    cases a1 <;> try (cases he; done)
    rcases t1 with _ | ⟨a2, t2⟩ <;> try (cases he; done)
  · cases he
    obtain ⟨x, y, rfl, qa, qb⟩ := q.two
    obtain ⟨t, rfl⟩ := qa.int_inv
    obtain ⟨u, rfl⟩ := qb.int_inv
    exact h1 _ _ _ _ _ _ (hQ _ F _ (Step.refl w) (.val (.bool _)))
  · cases he
    obtain ⟨x, y, rfl, qa, qb⟩ := q.two
    obtain ⟨t, rfl, _, _⟩ := qa.str_inv
    obtain ⟨u, rfl, _, _⟩ := qb.str_inv
    exact h2 _ _ _ _ _ _ (hQ _ F _ (Step.refl w) (.val (.bool _)))
theorem op_lt : OpOK cx .lt (op2 (compareOp .Lt)) := fun n A F s vs ds r ok bud w q he =>
  ord_ok w q he (fun _ _ _ _ _ _ h => P.lt_int h) fun _ _ _ _ _ _ h => P.lt_str h
end
end Mine
end MpEx
section MpFx
open PySem PySem.Calls PyProof.Rows PySem.Builtin.Str
namespace Mine
section
variable {cx : XCx}
theorem small_of {i : Int} (h : small i = true) : -1000000000 ≤ i ∧ i ≤ 1000000000 := by
  unfold small at h
  simpa [Bool.and_eq_true, decide_eq_true_eq] using h
theorem place_eq (i : Int) (n : Nat) : place i n = seqIndex? i n := by
  rcases Int.lt_or_le i 0 with h | h
  · have h0 : ¬ 0 ≤ i := by omega
    simp only [place, seqIndex?, if_neg h0, if_pos h]
    by_cases h2 : 0 ≤ i + n
    · have h3 : i + n < n := by omega
      simp [h2, h3]
    · simp [h2]
  · have h0 : ¬ i < 0 := by omega
    simp only [place, seqIndex?, if_pos h, if_neg h0]
    by_cases h2 : i < n
    · simp [h, h2]
    · simp [h2]
theorem op_index : OpOK cx .index (op2 getItem) := by
  intro n A F s vs ds r ok bud w q he Q E hQ
  replace he : opIndex ds = some r := he
  rcases ds with _ | ⟨a0, t0⟩
  · cases he
  cases a0 <;> try (cases he; done)
  all_goals
    rcases t0 with _ | ⟨a1, t1⟩
    · cases he
    cases a1 <;> try (cases he; done)
    rcases t1 with _ | ⟨a2, t2⟩ <;> try (cases he; done)
  · rename_i l i
    replace he : (if small i then (match place i l.length with | some k => ((l[k]?).map fun c => R.val (.str [c])) | none => none) else none) = some r := he
    split at he
    · rename_i hs
      have hs := small_of hs
      split at he
      · rename_i k hk
        obtain ⟨c, hc, e⟩ := Option.map_eq_some_iff.mp he
        cases e
        obtain ⟨x, y, rfl, qa, qb⟩ := q.two
        obtain ⟨t, rfl, p, z⟩ := qa.str_inv
        obtain ⟨u, rfl⟩ := qb.int_inv
        refine P.getItem_str (c := c) (by simp; omega) ?_ (hQ _ F _ ((Step.refl w).toks _) (.val ?_))
        · rw [place_eq] at hk
          show (seqIndex? i l.toArray.size).bind _ = _
          rw [List.size_toArray, hk]
          show l.toArray[k]? = _
          simpa using hc
        · have : c ∈ l := List.mem_of_getElem? hc
          exact Rep.str (l := [c]) _ (fun d hd => by rw [List.mem_singleton.mp hd]; exact p c this) (by show 1 ≤ lim; decide)
      · cases he
    · cases he
  · rename_i l i
    replace he : (if small i then (match place i l.length with | some k => ((l[k]?).map R.val) | none => none) else none) = some r := he
    split at he
    · rename_i hs
      have hs := small_of hs
      split at he
      · rename_i k hk
        obtain ⟨d, hc, e⟩ := Option.map_eq_some_iff.mp he
        cases e
        obtain ⟨x, y, rfl, qa, qb⟩ := q.two
        obtain ⟨a, ws, m, rfl, nx, g, z, ql⟩ := qa.list_inv w
        obtain ⟨u, rfl⟩ := qb.int_inv
        obtain ⟨v, hv, rv⟩ := ql.get hc
        have hl := ql.length
        unfold place at hk
        split at hk
        · rename_i h0
          split at hk <;> cases hk
          rename_i h1
          exact wpAny_getItem_list (isList_of g) h0 (by omega) (by simpa using hv) (hQ _ F _ (Step.refl w) (.val rv))
        · rename_i h0
          split at hk <;> cases hk
          rename_i h1
          exact wpAny_getItem_list_neg (isList_of g) (by omega) (by rw [List.size_toArray, hl]; omega) (by omega) (by rw [List.size_toArray, hl]; simpa using hv) (hQ _ F _ (Step.refl w) (.val rv))
      · cases he
    · cases he
  · rename_i l i
    replace he : (if small i then (match place i l.length with | some k => ((l[k]?).map R.val) | none => none) else none) = some r := he
    split at he
    · rename_i hs
      have hs := small_of hs
      split at he
      · rename_i k hk
        obtain ⟨d, hc, e⟩ := Option.map_eq_some_iff.mp he
        cases e
        obtain ⟨x, y, rfl, qa, qb⟩ := q.two
        obtain ⟨a, ws, m, rfl, f, g, z, ql⟩ := qa.tup_inv
        obtain ⟨u, rfl⟩ := qb.int_inv
        obtain ⟨v, hv, rv⟩ := ql.get hc
        rw [place_eq] at hk
        exact PyProof.Rows.getItem_tuple (isTup_of g) (by omega) (by omega) (by rw [List.size_toArray, ql.length]; exact hk) (by simpa using hv) (hQ _ F _ (Step.refl w) (.val rv))
      · cases he
    · cases he
theorem clip_eq (i : Int) (n : Nat) : clip i n = clipAt n i := by
  unfold clip clipAt
  by_cases h : i < 0
  · rw [if_pos h, if_pos h, Int.min_eq_left (by have := Int.add_le_add_right (Int.le_of_lt h) (n : Int); rwa [Int.zero_add] at this)]
    rcases Int.le_total 0 (i + n) with q | q
    · rw [Int.max_eq_right q]
    · rw [Int.max_eq_left q, Int.toNat_of_nonpos q]; rfl
  · rw [if_neg h, if_neg h]
    by_cases g : i < n
    · rw [if_pos g, Int.min_eq_left (Int.le_of_lt g), Int.max_eq_right (Int.not_lt.mp h)]
    · rw [if_neg g, Int.min_eq_right (Int.not_lt.mp g), Int.max_eq_right (Int.natCast_nonneg n)]; rfl
theorem part_of {F : Addr → Prop} {h : Heap} {v : Value} {d : D} {o : Option Int} (q : BRep cx F h v d) (e : partD d = some o) : IsPart v o ∧ (∃ p : Option (Int × Tok), v = partValue p ∧ p.map (·.1) = o) := by
  cases d <;> try (cases e; done)
  · cases e; rw [q.none_inv]; exact ⟨.none, none, rfl, rfl⟩
  · rename_i i
    replace e : (if small i then some (some i) else none) = some o := e
    split at e <;> cases e
    obtain ⟨t, rfl⟩ := q.int_inv
    exact ⟨.int _ t, some (_, t), rfl, rfl⟩
theorem bound_part {d : D} {k n b : Nat} (h : bound d k n = some b) : ∃ o, partD d = some o ∧ b = o.elim k (clipAt n) := by
  cases d <;> try (cases h; done)
  · cases h; exact ⟨none, rfl, rfl⟩
  · rename_i i
    replace h : (if small i then some (clip i n) else none) = some b := h
    split at h <;> cases h
    rename_i hi
    exact ⟨some i, if_pos hi, clip_eq _ _⟩
theorem pick_toArray (vs : List Value) (lo hi st : Option Int) : slicePick vs.toArray lo hi st = (pick vs lo hi st).toArray := by
  unfold slicePick pick
  simp only [List.size_toArray]
  have e : (fun a : Nat => vs.toArray[a]?) = fun a => vs[a]? := by funext a; simp
  rw [e]
theorem RepL.pick {T : Nat → Addr} {F : Addr → Prop} {h : Heap} {vs : List Value} {ds : List D} (r : RepL T F h vs ds) (lo hi st : Option Int) : RepL T F h (pick vs lo hi st) (Mine.pick ds lo hi st) := by
  unfold Mine.pick
  rw [r.length]
  exact r.pickAt _
theorem pick_plain {α : Type} (l : List α) (lo hi : Option Int) : pick l lo hi none = cut l (lo.elim 0 (clipAt l.length)) (hi.elim l.length (clipAt l.length)) := by
  unfold pick cut
  rw [sliceBounds_plain]
  simp only [sliceRange_one]
  have := pick_run l.toArray (lo.elim 0 (clipAt l.length)) (hi.elim l.length (clipAt l.length) - lo.elim 0 (clipAt l.length))
  simp only [List.getElem?_toArray] at this
  exact this
theorem strSlice_pick (l : List Nat) (lo hi : Option Int) : ((strSliceIndices lo hi 1 l.length).filterMap (l[·]?)) = pick l lo hi none := rfl
theorem pick_length {α : Type} (l : List α) (lo hi : Option Int) : (pick l lo hi none).length ≤ l.length := by
  rw [pick_plain]; unfold cut
  rw [List.length_take, List.length_drop]; omega
theorem slice_list {F : Addr → Prop} {s : Shared} {A : Around} {E : Value → Shared → Prop} {Q : Value → Shared → Prop} (ok : CxOk cx) (w : Wd cx F s) {a sl : Addr} {vs : List Value} {n : Nat} {l : List D} {vl vu vst : Value} {lo hi st : Option Int}
    (g : s.heap.get? a = some (lobj vs.toArray n)) (z : vs.length ≤ lim) (q : RepL cx.T F s.heap vs l) (hs : s.heap.IsSliceOf sl vl vu vst) (pl : IsPart vl lo) (pu : IsPart vu hi) (ps : IsPart vst st) (h0 : st ≠ some 0)
    (hQ : Post cx F s (.own (pick l lo hi st)) Q) : wpAny (model cx.prog cx.w) A (getItem (.ref a) (.ref sl)) Q E s := by
  refine wpAny_getItem_list_slice (isList_of g) hs pl pu ps h0 ?_ (by rw [List.size_toArray]; exact sz_line z)
  have hsz : (pick vs lo hi st).length ≤ lim := by
    have := slicePick_size_le vs.toArray lo hi st
    rw [pick_toArray, List.size_toArray, List.size_toArray] at this
    exact Nat.le_trans this z
  rw [pick_toArray]
  refine hQ _ F _ (Step.push ok w _ _) (.pushOwn w hsz (q.pick lo hi st))
theorem slice_str {F : Addr → Prop} {s : Shared} {A : Around} {E : Value → Shared → Prop} {Q : Value → Shared → Prop} (w : Wd cx F s) {sl : Addr} {l : List Nat} {t : Tok} {pl pu : Option (Int × Tok)}
    (p : ∀ c ∈ l, c < 0x110000) (z : l.length ≤ lim) (hs : s.heap.IsSlice sl pl pu none) (hQ : Post cx F s (.val (.str (pick l (pl.map (·.1)) (pu.map (·.1)) none))) Q) :
    wpAny (model cx.prog cx.w) A (getItem (.str ⟨l.toArray⟩ t) (.ref sl)) Q E s := by
  refine wpAny_getItem_str_slice hs (by rfl) ?_
  have hsz := pick_length l (pl.map (·.1)) (pu.map (·.1))
  have hp : ∀ c ∈ pick l (pl.map (·.1)) (pu.map (·.1)) none, c < 0x110000 := fun c hc => by
    rw [pick_plain] at hc; unfold cut at hc
    exact p c (List.mem_of_mem_drop (List.mem_of_mem_take hc))
  have e0 : slicePicked ⟨l.toArray⟩ pl pu none = strSliceIndices (pl.map (·.1)) (pu.map (·.1)) 1 l.length := by
    unfold slicePicked
    show strSliceIndices _ _ 1 (l.toArray.size) = _
    rw [List.size_toArray]
  have e1 : ((slicePicked ⟨l.toArray⟩ pl pu none).filterMap ((PySem.Str.mk l.toArray).cps[·]?)) = pick l (pl.map (·.1)) (pu.map (·.1)) none := by
    rw [e0, ← strSlice_pick]
    have e : (fun a : Nat => (PySem.Str.mk l.toArray).cps[a]?) = fun a => l[a]? := by funext a; simp
    rw [e]
  unfold sliceMade
  rw [e1]
  by_cases hc : ((((none : Option (Int × Tok)).map (·.1)).getD 1 == 1 && (slicePicked ⟨l.toArray⟩ pl pu none).length == (PySem.Str.mk l.toArray).length) = true)
  · rw [if_pos hc]
    simp only [Bool.and_eq_true, beq_iff_eq] at hc
    have h2 := hc.2
    rw [e0] at h2
    have e3 : strSliceIndices (pl.map (·.1)) (pu.map (·.1)) 1 l.length = sliceRange (sliceBounds (pl.map (·.1)) (pu.map (·.1)) none l.length).1 (sliceBounds (pl.map (·.1)) (pu.map (·.1)) none l.length).2.1 (sliceBounds (pl.map (·.1)) (pu.map (·.1)) none l.length).2.2 := rfl
    rw [e3, sliceBounds_plain, sliceRange_one, List.length_map, List.length_range] at h2
    have h3 : (PySem.Str.mk l.toArray).length = l.length := by show l.toArray.size = _; rw [List.size_toArray]
    rw [h3] at h2
    have hb : (pu.map (·.1)).elim l.length (clipAt l.length) ≤ l.length := by
      cases (pu.map (·.1)) with
      | none => exact Nat.le_refl _
      | some i => show clipAt l.length i ≤ _; unfold clipAt; omega
    have : pick l (pl.map (·.1)) (pu.map (·.1)) none = l := by
      rw [pick_plain]
      unfold cut
      rcases Nat.eq_zero_or_pos l.length with h | h
      · rw [List.length_eq_zero_iff.mp h]; simp
      · have e2 : (pl.map (·.1)).elim 0 (clipAt l.length) = 0 := by omega
        rw [e2, List.drop_zero, List.take_of_length_le (by omega)]
    rw [this] at hQ
    exact hQ _ F _ (Step.refl w) (.val (.str t p z))
  · rw [if_neg hc]
    exact ⟨Nat.le_trans (by show (List.toArray _).size ≤ l.length; rw [List.size_toArray]; exact hsz) (sz_line z), hQ _ F _ ((Step.refl w).toks _) (.val (.str _ hp (Nat.le_trans hsz z)))⟩
end
end Mine
end MpFx
section MpGx
open PySem PySem.Calls PyProof.Rows PySem.Builtin.Str
namespace Mine
section
variable {cx : XCx} {ε : Sc}
theorem subscripted_any (slice : Expr) (o i : Value) : ∃ ops, subscripted slice false o i = operate ops (getItem o i) := by
  cases slice with
  | Slice l u st p => cases st <;> exact ⟨_, rfl⟩
  | _ => exact ⟨_, rfl⟩
noncomputable def seqD : D → Bool
  | .str _ | .list _ | .tup _ => true
  | _ => false
theorem tail_ok {F : Addr → Prop} {s : Shared} {A : Around} {value slice : Expr} {o i : Value} {d : D} {Q : Value → Shared → Prop} {E : Value → Shared → Prop} (w : Wd cx F s) (q : BRep cx F s.heap o d) (hd : seqD d = true)
    (h : wpAny (model cx.prog cx.w) A (getItem o i) Q E s) : wpAny (model cx.prog cx.w) A (subscriptTail value slice o i) Q E s := by
  obtain ⟨ops, hs⟩ := subscripted_any slice o i
  cases d with
  | str l =>
    obtain ⟨t, rfl, _, _⟩ := q.str_inv
    exact tail_any (typeIs_str s _ _) PySem.F.slot_str_getitem.lookup h hs
  | list l =>
    obtain ⟨a, vs, n, rfl, nx, g, z, _⟩ := q.list_inv w
    exact tail_any (T := "list") ⟨_, g, rfl⟩ list_getitem_lookup h hs
  | tup l =>
    obtain ⟨a, vs, n, rfl, f, g, z, _⟩ := q.tup_inv
    exact tail_any (T := "tuple") ⟨_, g, rfl⟩ PySem.F.slot_tuple_getitem.lookup h hs
  | _ => cases hd
theorem seqD_index {d e : D} {r : R} (h : opIndex [d, e] = some r) : seqD d = true := by
  cases d <;> first | rfl | (cases h; done)
theorem sound_index {v i : Expr} {pos : Pos} {xv xi : X} (hv : Sound cx ε v xv) (hi : Sound cx ε i xi) : Sound cx ε (.Subscript v i pos) (.op .index (.cons xv (.cons xi .nil))) := by
  refine Sound.ofE ?_ fun _ => rfl
  intro n cf A env F s ρ ad m cm H res he Q E hQ
  obtain ⟨rs, h1, h2⟩ := ev_op he
  obtain ⟨ra, xs, ha, h3, rfl⟩ := ev_cons h1
  obtain ⟨rb, ys, hb, h4, rfl⟩ := ev_cons h3
  cases ev_nil h4
  refine Subscript_ ?_
  refine hv.ev n cf A env F s ρ ad m cm H ra ha _ _ fun a F' s' st qa => ?_
  refine hi.ev n cf A env F' s' ρ ad m cm (H.step st) rb hb _ _ fun b F'' s'' st' qb => ?_
  have qa' := st'.brep st.wd qa.brep
  refine tail_ok st'.wd qa' (seqD_index h2) ?_
  exact op_index n A F'' s'' [a, b] _ res H.ok H.bud st'.wd (.cons qa' (.cons qb.brep .nil)) h2 _ _ (hQ.after (st.trans st'))
inductive SoundO (cx : XCx) (ε : Sc) : Option Expr → X → Prop
  | no : SoundO cx ε none (.const .none)
  | yes {e : Expr} {x : X} : Sound cx ε e x → SoundO cx ε (some e) x
theorem SoundO.run {o : Option Expr} {x : X} (h : SoundO cx ε o x) {n cf A env F s ρ ad m cm} (H : Here cx ε n cf A env F s ρ ad m cm) {r : R} (hr : ev cf x ρ = some [r]) : Ev cx A F s (evalPart o env) r := by
  cases h with
  | no => replace hr := (evq_const _).symm.trans hr; cases hr; exact Ev.here H.wd (.val .none)
  | yes h => exact h.ev n cf A env F s ρ ad m cm H r hr
theorem sliceOf_brep {F : Addr → Prop} {h : Heap} {v : Value} {d : D} {o : Option Int} (q : BRep cx F h v d) (e : partD d = some o) : ∃ p : Option (Int × Tok), v = partValue p ∧ p.map (·.1) = o := (part_of q e).2
theorem sound_slice {v : Expr} {l u : Option Expr} {p pos : Pos} {xv xl xu : X} (hv : Sound cx ε v xv) (hl : SoundO cx ε l xl) (hu : SoundO cx ε u xu) :
    Sound cx ε (.Subscript v (.Slice l u none p) pos) (.op .slice (.cons xv (.cons xl (.cons xu .nil)))) := by
  refine Sound.ofE ?_ fun _ => rfl
  intro n cf A env F s ρ ad m cm H res he Q E hQ
  obtain ⟨rs, h1, h2⟩ := ev_op he
  obtain ⟨ra, xs, ha, h3, rfl⟩ := ev_cons h1
  obtain ⟨rb, ys, hb, h4, rfl⟩ := ev_cons h3
  obtain ⟨rc, zs, hc, h5, rfl⟩ := ev_cons h4
  cases ev_nil h5
  refine Subscript_ ?_
  refine hv.ev n cf A env F s ρ ad m cm H ra ha _ _ fun a F' s' st qa => ?_
  refine wpAny_Slice ?_
  refine hl.run (H.step st) hb _ _ fun vl F1 s1 st1 ql => ?_
  refine hu.run ((H.step st).step st1) hc _ _ fun vu F2 s2 st2 qu => ?_
  refine wpAny_pure ?_
  have st3 := (st.trans st1).trans st2
  have st4 := Step.push H.ok st3.wd { cls := .type "slice", data := .fields #[vl, vu, .none] } s2.toks
  have qa' := st4.brep st3.wd ((st1.trans st2).brep st.wd qa.brep)
  have ql' := st4.brep st3.wd (st2.brep st1.wd ql.brep)
  have qu' := st4.brep st3.wd qu.brep
  have hs := Heap.IsSliceOf.new s2.heap vl vu .none
  replace h2 : opSlice [ra.ds, rb.ds, rc.ds] = some res := h2
  cases hx : ra.ds <;> rw [hx] at h2 <;> try (cases h2; done)
  · rename_i x
    rw [hx] at qa'
    replace h2 : (match bound rb.ds 0 x.length, bound rc.ds x.length x.length with | some lo, some hi => some (R.val (.str (cut x lo hi))) | _, _ => none) = some res := h2
    split at h2
    · rename_i lo hi hlo hhi
      cases h2
      obtain ⟨t, rfl, pp, z⟩ := qa'.str_inv
      refine tail_ok st4.wd qa' rfl ?_
      obtain ⟨ol, hol, rfl⟩ := bound_part hlo
      obtain ⟨ou, hou, rfl⟩ := bound_part hhi
      obtain ⟨pl, rfl, e4⟩ := sliceOf_brep ql' hol
      obtain ⟨pu, rfl, e5⟩ := sliceOf_brep qu' hou
      refine slice_str st4.wd (pl := pl) (pu := pu) pp z ?_ ?_
      · obtain ⟨o, h1, h2, h3⟩ := hs; exact ⟨o, h1, h2, h3⟩
      · rw [e4, e5, pick_plain]; exact hQ.after (st3.trans st4)
    · cases h2
  · rename_i x
    rw [hx] at qa'
    replace h2 : (match bound rb.ds 0 x.length, bound rc.ds x.length x.length with | some lo, some hi => some (R.own (cut x lo hi)) | _, _ => none) = some res := h2
    split at h2
    · rename_i lo hi hlo hhi
      cases h2
      obtain ⟨al, vs, k, rfl, nx, g, z, q⟩ := qa'.list_inv st4.wd
      refine tail_ok st4.wd qa' rfl ?_
      obtain ⟨ol, hol, rfl⟩ := bound_part hlo
      obtain ⟨ou, hou, rfl⟩ := bound_part hhi
      refine slice_list H.ok st4.wd g z q hs (part_of ql' hol).1 (part_of qu' hou).1 .none (by intro e; cases e) ?_
      rw [pick_plain]; exact hQ.after (st3.trans st4)
    · cases h2
theorem sound_slice3 {v st : Expr} {l u : Option Expr} {p pos : Pos} {xv xl xu xs : X} (hv : Sound cx ε v xv) (hl : SoundO cx ε l xl) (hu : SoundO cx ε u xu) (hst : Sound cx ε st xs) :
    Sound cx ε (.Subscript v (.Slice l u (some st) p) pos) (.op .slice3 (.cons xv (.cons xl (.cons xu (.cons xs .nil))))) := by
  refine Sound.ofE ?_ fun _ => rfl
  intro n cf A env F s ρ ad m cm H res he Q E hQ
  obtain ⟨rs, h1, h2⟩ := ev_op he
  obtain ⟨ra, xs', ha, h3, rfl⟩ := ev_cons h1
  obtain ⟨rb, ys, hb, h4, rfl⟩ := ev_cons h3
  obtain ⟨rc, zs, hc, h5, rfl⟩ := ev_cons h4
  obtain ⟨rd, ws, hd, h6, rfl⟩ := ev_cons h5
  cases ev_nil h6
  refine Subscript_ ?_
  refine hv.ev n cf A env F s ρ ad m cm H ra ha _ _ fun a F' s' st qa => ?_
  refine wpAny_Slice ?_
  refine hl.run (H.step st) hb _ _ fun vl F1 s1 st1 ql => ?_
  refine hu.run ((H.step st).step st1) hc _ _ fun vu F2 s2 st2 qu => ?_
  have st3 := (st.trans st1).trans st2
  refine hst.ev n cf A env F2 s2 ρ ad m cm (H.step st3) rd hd _ _ fun vs F3 s3 st5 qs => ?_
  have st6 := st3.trans st5
  have st4 := Step.push H.ok st6.wd { cls := .type "slice", data := .fields #[vl, vu, vs] } s3.toks
  have qa' := st4.brep st6.wd (((st1.trans st2).trans st5).brep st.wd qa.brep)
  have ql' := st4.brep st6.wd ((st2.trans st5).brep st1.wd ql.brep)
  have qu' := st4.brep st6.wd (st5.brep st3.wd qu.brep)
  have qs' := st4.brep st6.wd qs.brep
  have hs := Heap.IsSliceOf.new s3.heap vl vu vs
  replace h2 : opSlice3 [ra.ds, rb.ds, rc.ds, rd.ds] = some res := h2
  cases hx : ra.ds <;> rw [hx] at h2 <;> try (cases h2; done)
  cases hy : rd.ds <;> rw [hy] at h2 <;> try (cases h2; done)
  · rename_i x k
    rw [hx] at qa'; rw [hy] at qs'
    replace h2 : (match partD rb.ds, partD rc.ds with | some lo, some hi => if k ≠ 0 ∧ small k then some (R.own (pick x lo hi (some k))) else none | _, _ => none) = some res := h2
    split at h2
    · rename_i lo hi hlo hhi
      split at h2 <;> cases h2
      rename_i hk
      obtain ⟨al, vs', k', rfl, nx, g, z, q⟩ := qa'.list_inv st4.wd
      refine tail_ok st4.wd qa' rfl ?_
      obtain ⟨t, rfl⟩ := qs'.int_inv
      exact slice_list H.ok st4.wd g z q hs (part_of ql' hlo).1 (part_of qu' hhi).1 (.int _ _) (by intro e; cases e; exact hk.1 rfl) (hQ.after (st6.trans st4))
    · cases h2
end
end Mine
end MpGx
section MpHx
open PySem PySem.Calls PyProof.Rows PySem.Builtin.Str
namespace Mine
noncomputable def starred : Expr → Bool
  | .Starred _ _ => true
  | _ => false
theorem starEach_plain {e : Expr} {rest : List Expr} {env : Env} (h : starred e = false) : starEach (e :: rest) env = (false, eval e env) :: starEach rest env := by
  cases e <;> first | rfl | cases h
theorem backTo_plain {pos : Pos} {t : Sem Value} {r : List (Bool × Sem Value)} : backTo pos ((false, t) :: r) = (false, t) :: backTo pos r := by
  simp [backTo]
section
variable {cx : XCx} {ε : Sc}
inductive RepRL (cx : XCx) (F : Addr → Prop) (lo h : Heap) : List Value → List R → Prop
  | nil : RepRL cx F lo h [] []
  | cons {v : Value} {vs : List Value} {r : R} {rs : List R} : RepR cx F lo h v r → RepRL cx F lo h vs rs → RepRL cx F lo h (v :: vs) (r :: rs)
theorem RepRL.brep {F : Addr → Prop} {lo h : Heap} {vs : List Value} {rs : List R} (q : RepRL cx F lo h vs rs) : BRepL cx F h vs (rs.map R.ds) := by
  induction q with
  | nil => exact .nil
  | cons a _ ih => exact .cons a.brep ih
theorem RepRL.low {F F' F'' : Addr → Prop} {s s' : Shared} {h : Heap} {vs : List Value} {rs : List R} (x : Step cx F s F' s') (q : RepRL cx F'' s'.heap h vs rs) : RepRL cx F'' s.heap h vs rs := by
  induction q with
  | nil => exact .nil
  | cons a _ ih => exact .cons (a.low x) ih
theorem RepRL.append {F : Addr → Prop} {lo h : Heap} {vs ws : List Value} {rs ts : List R} (q : RepRL cx F lo h vs rs) (p : RepRL cx F lo h ws ts) : RepRL cx F lo h (vs ++ ws) (rs ++ ts) := by
  induction q with
  | nil => exact p
  | cons a _ ih => exact .cons a ih
theorem RepRL.vals {F : Addr → Prop} {lo h : Heap} {vs : List Value} {l : List D} (q : RepL cx.T F h vs l) : RepRL cx F lo h vs (l.map .val) := by
  induction vs generalizing l with
  | nil => cases q; exact .nil
  | cons v vs ih => cases q with | cons a b => exact .cons (.val a) (ih b)
theorem RepRL.length {F : Addr → Prop} {lo h : Heap} {vs : List Value} {rs : List R} (q : RepRL cx F lo h vs rs) : vs.length = rs.length := by
  induction q with
  | nil => rfl
  | cons _ _ ih => simp [ih]
theorem fz_all (ok : CxOk cx) {F : Addr → Prop} {s : Shared} (w : Wd cx F s) : ∀ {vs : List Value} {rs : List R} {ds : List D} {F' : Addr → Prop} {s' : Shared} {F₁ : Addr → Prop}, Step cx F s F₁ s' → (∀ a, F' a → F₁ a) → RepRL cx F' s.heap s'.heap vs rs → fzAll rs = some ds →
    ∃ F'', Step cx F s F'' s' ∧ (∀ a, F₁ a → F'' a) ∧ RepL cx.T F'' s'.heap vs ds := by
  intro vs rs ds F' s' F₁ x hF q e
  induction q generalizing ds F₁ with
  | nil => cases e; exact ⟨F₁, x, fun _ h => h, .nil⟩
  | @cons v vs r rs a b ih =>
    unfold fzAll at e
    split at e
    · rename_i d ds' e1 e2
      cases e
      cases a with
      | val a =>
        cases e1
        obtain ⟨F'', y, hs, q⟩ := ih x hF e2
        exact ⟨F'', y, hs, .cons (a.mono (fun c h => hs c (hF c h)) fun _ _ _ e => e) q⟩
      | own l nf nx g z a =>
        cases e1
        obtain ⟨F'', y, hs, q⟩ := ih (x.freeze ok w l g) (fun c h => .inl (hF c h)) e2
        exact ⟨F'', y, fun c h => hs c (.inl h), .cons (.list (hs _ (.inr rfl)) g z (a.mono (fun c h => hs c (.inl (hF c h))) fun _ _ _ e => e)) q⟩
      | bor _ _ _ _ => cases e1
    · cases e
inductive SoundL (cx : XCx) (ε : Sc) : List Expr → X → Bool → Prop
  | nil : SoundL cx ε [] .nil false
  | cons {e : Expr} {x : X} {es : List Expr} {y : X} {st : Bool} : Sound cx ε e x → starred e = false → SoundL cx ε es y st → SoundL cx ε (e :: es) (.cons x y) st
  | star {e : Expr} {x : X} {p : Pos} : Sound cx ε e x → SoundL cx ε [.Starred e p] (.star x) true
theorem collect_ok {F : Addr → Prop} {s : Shared} {A : Around} {E : Value → Shared → Prop} {Q : List Value → Shared → Prop} (ok : CxOk cx) (w : Wd cx F s) {v : Value} {r : R} {d : D} {l : List D} {lo : Heap} (q : RepR cx F lo s.heap v r) (e : r.fz = some d)
    (hl : d = .list l ∨ d = .tup l)
    (h : ∀ vs s', RepL cx.T F s'.heap vs l → vs.length ≤ lim → Step cx F s F s' → Q vs s') : PySem.W.StarOf (model cx.prog cx.w) A E v Q s := by
  have key : ∃ (a : Addr) (o : Obj) (T : String) (vs : List Value) (n : Nat), v = .ref a ∧ s.heap.get? a = some o ∧ o.cls = .type T ∧ o.data = .seq vs.toArray n ∧ (T = "list" ∨ T = "tuple") ∧ vs.length ≤ lim ∧ RepL cx.T F s.heap vs l := by
    cases q with
    | val q =>
      cases e
      rcases hl with rfl | rfl
      · cases q with | list f g z q => exact ⟨_, _, "list", _, _, rfl, g, rfl, rfl, .inl rfl, z, q⟩
      · cases q with | tup f g z q => exact ⟨_, _, "tuple", _, _, rfl, g, rfl, rfl, .inr rfl, z, q⟩
    | own l nf nx g z q =>
      cases e
      rcases hl with h | h <;> cases h
      exact ⟨_, _, "list", _, _, rfl, g, rfl, rfl, .inl rfl, z, q⟩
    | bor _ _ _ _ => cases e
  obtain ⟨a, o, T, vs, n, rfl, g, hc, hd, hT, z, q⟩ := key
  have hT' : s.TypeIs (.ref a) T := ⟨o, g, hc⟩
  have c : wpAny (model cx.prog cx.w) A (collect (.ref a)) Q E s := by
    refine wpAny_collect_seq a hT g hc hd (fun h' hk => ?_) (by rw [List.size_toArray]; exact sz_line z)
    exact h vs { s with heap := h' } (q.mono (fun _ h => h) fun a o _ e => hk a o e) z (Step.grown ok w s.toks hk)
  unfold PySem.W.StarOf notIterableAtAll
  rcases hT with rfl | rfl
  · exact wpAny_bind (wpAny_specialOf hT' PySem.F.slot_list_iter.lookup (wpAny_pure ⟨rfl, c⟩))
  · exact wpAny_bind (wpAny_specialOf hT' PySem.F.slot_tuple_iter.lookup (wpAny_pure ⟨rfl, c⟩))
theorem ev_star {cf : Nat → List D → Option D} {ρ : List Slot} {a : X} {rs : List R} (h : ev cf (.star a) ρ = some rs) : ∃ x d l, ev cf a ρ = some [x] ∧ x.fz = some d ∧ (d = .list l ∨ d = .tup l) ∧ rs = l.map .val := by
  replace h := (evq_star _).symm.trans h
  split at h
  · rename_i x e
    split at h
    · rename_i l e'; cases h; exact ⟨x, _, l, e, e', .inl rfl, rfl⟩
    · rename_i l e'; cases h; exact ⟨x, _, l, e, e', .inr rfl, rfl⟩
    · cases h
  · cases h
theorem star_run {n cf A env F s ρ ad m cm} (H : Here cx ε n cf A env F s ρ ad m cm) {e : Expr} {x : X} (h : Sound cx ε e x) {rs : List R} (hr : ev cf (.star x) ρ = some rs) {Q : List Value → Shared → Prop} {E : Value → Shared → Prop}
    (hQ : ∀ vs F' s', Step cx F s F' s' → RepRL cx F' s.heap s'.heap vs rs → vs.length ≤ lim → Q vs s') : wpAny (model cx.prog cx.w) A (eval e env) (fun v s₁ => PySem.W.StarOf (model cx.prog cx.w) A E v Q s₁) E s := by
  obtain ⟨r, d, l, e1, e2, e3, rfl⟩ := ev_star hr
  refine h.ev n cf A env F s ρ ad m cm H r e1 _ _ fun v F' s' st q => ?_
  obtain ⟨F'', st', hs, rd⟩ := st.fz H.ok H.wd q e2
  have q' : RepR cx F'' s.heap s'.heap v (.val d) := .val rd
  exact collect_ok H.ok st'.wd q' rfl e3 fun vs s'' ql z st'' => hQ vs F'' s'' (st'.trans st'') (RepRL.vals ql) z
theorem SoundL.run {es : List Expr} {x : X} {b : Bool} (h : SoundL cx ε es x b) {n cf A env} {pos : Pos} :
    ∀ F s ρ ad m cm, Here cx ε n cf A env F s ρ ad m cm → ∀ rs, ev cf x ρ = some rs → ∀ (Q : List Value → Shared → Prop) (E : Value → Shared → Prop),
      (∀ vs F' s', Step cx F s F' s' → RepRL cx F' s.heap s'.heap vs rs → Q vs s') → wpAny (model cx.prog cx.w) A (spliced (backTo pos (starEach es env))) Q E s := by
  induction h with
  | nil =>
    intro F s ρ ad m cm H rs hr Q E hQ
    cases ev_nil hr
    exact Calls.spliced_nil (hQ [] F s (Step.refl H.wd) .nil)
  | @cons e x es y st h1 hs h2 ih =>
    intro F s ρ ad m cm H rs hr Q E hQ
    obtain ⟨r, rs', e1, e2, rfl⟩ := ev_cons hr
    rw [starEach_plain hs, backTo_plain]
    refine Calls.spliced_cons ?_
    refine h1.ev n cf A env F s ρ ad m cm H r e1 _ _ fun v F' s' st q => ?_
    refine ih F' s' ρ ad m cm (H.step st) rs' e2 _ _ fun vs F'' s'' st' qs => ?_
    exact hQ _ F'' s'' (st.trans st') (.cons (q.step st' st.wd) (qs.low st))
  | @star e x p h1 =>
    intro F s ρ ad m cm H rs hr Q E hQ
    refine PySem.W.ks_spliced (rest := []) (star_run H h1 hr fun vs F' s' st q z => ?_)
    exact Calls.spliced_nil (by rw [List.append_nil]; exact hQ vs F' s' st q)
theorem sound_list {es : List Expr} {x : X} {b : Bool} {pos : Pos} (h : SoundL cx ε es x b) : Sound cx ε (.List es pos) (.list x) := by
  refine Sound.ofE ?_ fun _ => rfl
  intro n cf A env F s ρ ad m cm H res he Q E hQ
  replace he := (evq_list _).symm.trans he
  split at he
  · rename_i rs e1
    split at he
    · rename_i ds e2
      split at he <;> cases he
      rename_i hz
      show wpAny _ _ (do standAt pos; newList (← spliced (backTo pos (starEach es env)))) Q E s
      refine wpAny_bind (wpAny_standAt (wpAny_bind ?_))
      refine h.run F s ρ ad m cm H rs e1 _ _ fun vs F' s' st q => ?_
      obtain ⟨F'', st', _, q'⟩ := fz_all H.ok H.wd st (fun _ h => h) q e2
      have z : vs.length ≤ lim := by rw [q'.length]; exact hz
      refine wpAny_newList ?_ (sz_line z)
      exact hQ _ F'' _ (st'.trans (Step.push H.ok st'.wd _ _)) ((RepR.pushOwn st'.wd z q').low st')
    · cases he
  · cases he
theorem push_tup {F : Addr → Prop} {s : Shared} (ok : CxOk cx) (w : Wd cx F s) {vs : List Value} {l : List D} (k : Nat) (z : vs.length ≤ lim) (q : RepL cx.T F s.heap vs l) :
    ∃ F', Step cx F s F' { s with heap := s.heap.push (tobj vs.toArray 0), toks := k } ∧ Rep cx.T F' (s.heap.push (tobj vs.toArray 0)) (.ref s.heap.objs.size) (.tup l) := by
  have st := Step.push ok w (tobj vs.toArray 0) k
  have g : (s.heap.push (tobj vs.toArray 0)).get? s.heap.objs.size = some (tobj vs.toArray 0) := Heap.get?_push_size _ rfl
  exact ⟨_, st.freeze ok w (fresh_size _) g, .tup (.inr rfl) g z ((st.repL w q).mono (fun _ h => .inl h) fun _ _ _ e => e)⟩
theorem sound_tup {es : List Expr} {x : X} {b : Bool} {k : Nat} {pos : Pos} (h : SoundL cx ε es x b) : Sound cx ε (.Tuple es k pos) (.tup x) := by
  refine Sound.ofE ?_ fun _ => rfl
  intro n cf A env F s ρ ad m cm H res he Q E hQ
  replace he := (evq_tup _).symm.trans he
  split at he
  · rename_i rs e1
    split at he
    · rename_i ds e2
      split at he <;> cases he
      rename_i hz
      show wpAny _ _ (do standAt pos; newTuple (← spliced (backTo pos (starEach es env)))) Q E s
      refine wpAny_bind (wpAny_standAt (wpAny_bind ?_))
      refine h.run F s ρ ad m cm H rs e1 _ _ fun vs F' s' st q => ?_
      obtain ⟨F'', st', _, q'⟩ := fz_all H.ok H.wd st (fun _ h => h) q e2
      have z : vs.length ≤ lim := by rw [q'.length]; exact hz
      refine wpAny_newTuple ?_ (sz_line z)
      obtain ⟨F3, st3, r⟩ := push_tup H.ok st'.wd s'.toks z q'
      exact hQ _ F3 _ (st'.trans st3) (.val r)
    · cases he
  · cases he
theorem backTo_any {es : List Expr} {x : X} {b : Bool} {pos : Pos} {env : Env} (h : SoundL cx ε es x b) : (backTo pos (starEach es env)).any (·.1) = b := by
  induction h with
  | nil => rfl
  | cons h1 hs h2 ih => rw [starEach_plain hs, backTo_plain, List.any_cons]; simpa using ih
  | star h => rfl
theorem evalArgs_ok {es : List Expr} {x : X} {b : Bool} {pos : Pos} (h : SoundL cx ε es x b) {n cf A env F s ρ ad m cm} (H : Here cx ε n cf A env F s ρ ad m cm) {rs : List R} (hr : ev cf x ρ = some rs) {f : Value} {Q : Args → Shared → Prop} {E : Value → Shared → Prop}
    (hQ : ∀ vs F' s', Step cx F s F' s' → RepRL cx F' s.heap s'.heap vs rs → Q ⟨vs, []⟩ s') : wpAny (model cx.prog cx.w) A (evalArgs f true (backTo pos (starEach es env)) []) Q E s := by
  cases h with
  | nil =>
    cases ev_nil hr
    exact PySem.evalArgs_none (hQ [] F s (Step.refl H.wd) .nil)
  | @cons e x es y b h1 hs h2 =>
    have := (SoundL.cons h1 hs h2).run (pos := pos) F s ρ ad m cm H rs hr
    rw [starEach_plain hs, backTo_plain] at this ⊢
    exact Calls.evalArgs_plain (this _ _ hQ)
  | star h1 =>
    exact PySem.W.ks_lone (star_run H h1 hr fun vs F' s' st q _ => hQ vs F' s' st q)
theorem load_global {n cf A env F s ρ ad m cm} (H : Here cx ε n cf A env F s ρ ad m cm) {x : Str} {pos : Pos} {v : Value} (hk : ε.kinds.lookup x = some .globalImplicit) (hv : cx.mg x = some v) (hd : (x == ("__debug__" : Str)) = false)
    {Q : Value → Shared → Prop} {E : Value → Shared → Prop} (h : Q v s) : wpAny (model cx.prog cx.w) A (eval (.Name x pos) env) Q E s :=
  Calls.Name_function_global H.env.kind (by unfold Env.kindOf; rw [H.env.names]; exact hk) (Calls.loadGlobal_global (H.env.glob ▸ H.wd.glob H.ok) hv h) hd
theorem load_builtin {n cf A env F s ρ ad m cm} (H : Here cx ε n cf A env F s ρ ad m cm) {x : Str} {pos : Pos} {v : Value} (hk : ε.kinds.lookup x = some .globalImplicit) (hg : cx.mg x = none) (hn : x ≠ "__name__") (hv : bootBuiltins x = some v) (hd : (x == ("__debug__" : Str)) = false)
    {Q : Value → Shared → Prop} {E : Value → Shared → Prop} (h : Q v s) : wpAny (model cx.prog cx.w) A (eval (.Name x pos) env) Q E s :=
  Calls.Name_function_global H.env.kind (by unfold Env.kindOf; rw [H.env.names]; exact hk) (Calls.loadGlobal_builtin (H.env.glob ▸ H.wd.glob H.ok) hg (H.env.blt ▸ H.wd.blt H.ok) ((H.ok.bmb x hn).trans hv) h) hd
theorem call_not_method {f : Expr} {args : List Expr} {pos : Pos} {env : Env} (hf : ∀ o n p, f ≠ .Attribute o n p) : eval (.Call f args [] pos) env = (do callWith pos (← eval f env) [] (backTo pos (starEach args env)) []) := by
  cases f <;> first | rfl | exact absurd rfl (hf _ _ _)
theorem sound_call {f : Str} {i : Nat} {p pos : Pos} {es : List Expr} {x : X} {b : Bool} (hk : ε.kinds.lookup f = some .globalImplicit) (hv : cx.mg f = some (.ref (cx.fa i))) (hd : (f == ("__debug__" : Str)) = false) (h : SoundL cx ε es x b) :
    Sound cx ε (.Call (.Name f p) es [] pos) (.call i x) := by
  refine Sound.ofE ?_ fun _ => rfl
  intro n cf A env F s ρ ad m cm H res he Q E hQ
  replace he := (evq_call _).symm.trans he
  split at he
  · rename_i rs e1
    split at he
    · rename_i ds e2
      obtain ⟨d, e3, e4⟩ := Option.map_eq_some_iff.mp he
      cases e4
      rw [call_not_method (by intro _ _ _ e; cases e)]
      obtain ⟨⟨o, fd, g, hfd, nx⟩, hcall⟩ := H.calls i ds d e3
      refine wpAny_bind (load_global H hk hv hd ?_)
      refine Calls.callWith_function (o := o) (fd := fd) (evalArgs_ok h H e1 fun vs F' s' st q => ?_)
      obtain ⟨F'', st', _, q'⟩ := fz_all H.ok H.wd st (fun _ h => h) q e2
      refine ⟨⟨st'.wd.base _ _ g nx, hfd⟩, ?_⟩
      show wpAny _ _ (call (.ref (cx.fa i)) vs) Q E s'
      refine wpAny_call (hcall A F'' s' vs H.bud.toBud st'.wd q' _ fun v F3 s3 st3 r => ?_)
      exact hQ v F3 s3 (st'.trans st3) (.val r)
    · cases he
  · cases he
inductive Callee : Value → Prop
  | builtin (id : String) : Callee (.builtin id)
  | type (T : String) : Callee (.type T)
theorem sound_callB {f : Str} {c : Value} {o : Op} {p pos : Pos} {es : List Expr} {x : X} (hk : ε.kinds.lookup f = some .globalImplicit) (hg : cx.mg f = none) (hn : f ≠ "__name__") (hv : bootBuiltins f = some c) (hc : Callee c)
    (hd : (f == ("__debug__" : Str)) = false) (h : SoundL cx ε es x false) (ho : OpOK cx o (fun vs => call c vs)) : Sound cx ε (.Call (.Name f p) es [] pos) (.op o x) := by
  refine Sound.ofE ?_ fun _ => rfl
  intro n cf A env F s ρ ad m cm H res he Q E hQ
  obtain ⟨rs, e1, e2⟩ := ev_op he
  rw [call_not_method (by intro _ _ _ e; cases e)]
  refine wpAny_bind (load_builtin H hk hg hn hv hd ?_)
  cases hc with
  | builtin id =>
    refine Calls.callWith_builtin (backTo_any h) (evalArgs_ok h H e1 fun vs F' s' st q => ?_)
    exact ho n A F' s' vs _ res H.ok H.bud st.wd q.brep e2 _ _ (hQ.after st)
  | type T =>
    refine PyProof.Rows.callWith_type (backTo_any h) (evalArgs_ok h H e1 fun vs F' s' st q => ?_)
    exact ho n A F' s' vs _ res H.ok H.bud st.wd q.brep e2 _ _ (hQ.after st)
noncomputable def plainBase : Expr → Bool
  | .Call (.Name _ _) [] [] _ => false
  | _ => true
theorem plainBase_ok {o : Expr} {a : Str} {env : Env} {t : Sem Value} (h : plainBase o = true) : attributeBase o a env t = t := by
  cases o with
  | Call f as ks pos => cases f with
    | Name x p => cases as with
      | nil => cases ks with
        | nil => cases h
        | cons _ _ => rfl
      | cons _ _ => rfl
    | _ => rfl
  | _ => rfl
theorem meth_run {o : Expr} {name : Str} {apos pos : Pos} {es : List Expr} {env : Env} {A : Around} {s : Shared} {Q : Value → Shared → Prop} {E : Value → Shared → Prop} (hb : plainBase o = true) (hl : (apos.endLine == pos.line) = true) (hn : es.length < 30)
    (hst : (backTo pos (starEach es env)).any (·.1) = false)
    (h : wpAny (model cx.prog cx.w) A (eval o env) (fun ov s₁ => wpAny (model cx.prog cx.w) A (getMethod ov name (do return (← importBound o env).getD true)) (fun fx s₂ => wpAny (model cx.prog cx.w) A (callWith pos fx.1 fx.2 (backTo pos (starEach es env)) []) Q E s₂) E s₁) E s) :
    wpAny (model cx.prog cx.w) A (eval (.Call (.Attribute o name apos) es [] pos) env) Q E s := by
  have hform : methodCallForm (es.length + ([] : List Keyword).length) (backTo pos (starEach es env)) [] = true := by
    unfold methodCallForm
    simp only [List.length_nil, Nat.add_zero, List.all_nil, Bool.and_true, List.isEmpty_nil, if_true, Bool.and_eq_true, decide_eq_true_eq]
    refine ⟨?_, hn⟩
    rw [List.all_eq_true]
    intro y hy
    have := List.any_eq_false.mp hst y hy
    simpa using this
  have hpos : methodCallPos true o env apos pos = pure pos := by unfold methodCallPos; simp [hl]
  show wpAny _ _ (do
    let ov ← attributeBase o name env (eval o env)
    standAt apos.atName
    methodCall o name apos pos env ov (es.length + ([] : List Keyword).length) (backTo pos (starEach es env)) (backToKw pos (keywordEach [] env))) Q E s
  rw [plainBase_ok hb]
  refine wpAny_bind (wpAny_mono h (fun ov s₁ h₁ => wpAny_bind (wpAny_standAt ?_)) fun _ _ e => e)
  show wpAny _ _ (methodCall o name apos pos env ov (es.length + ([] : List Keyword).length) (backTo pos (starEach es env)) []) Q E s₁
  unfold methodCall calleeOf
  rw [hform]
  refine wpAny_bind (wpAny_holding (wpAny_mono h₁ (fun fx s₂ h₂ => ?_) fun _ _ e => e))
  rw [hpos]
  exact wpAny_bind (wpAny_pure h₂)
theorem sound_strMeth {o : Expr} {name : Str} {id : String} {apos pos : Pos} {es : List Expr} {xo x : X} {op : Op} (hb : plainBase o = true) (hl : (apos.endLine == pos.line) = true) (hn : es.length < 30)
    (slot : PySem.Slot "str" name id) (ty : typeOf (.builtin id) = pure (.type "method_descriptor"))
    (h0 : Sound cx ε o xo) (h : SoundL cx ε es x false) (hs : ∀ d ds r, opF op (d :: ds) = some r → ∃ l, d = .str l) (ho : OpOK cx op (fun vs => call (.builtin id) vs)) : Sound cx ε (.Call (.Attribute o name apos) es [] pos) (.op op (.cons xo x)) := by
  refine Sound.ofE ?_ fun _ => rfl
  intro n cf A env F s ρ ad m cm H res he Q E hQ
  obtain ⟨rs, e1, e2⟩ := ev_op he
  obtain ⟨r0, rs', e3, e4, rfl⟩ := ev_cons e1
  refine meth_run hb hl hn (backTo_any h) ?_
  refine h0.ev n cf A env F s ρ ad m cm H r0 e3 _ _ fun v F' s' st q => ?_
  obtain ⟨l, hl'⟩ := hs _ _ _ e2
  have qb := q.brep
  rw [hl'] at qb
  obtain ⟨t, rfl, p, z⟩ := qb.str_inv
  refine GM.of _ (typeIs_str _ _ _) slot ty (fun _ e => nomatch e) ?_
  refine Calls.callWith_builtin (backTo_any h) (evalArgs_ok h (H.step st) e4 fun vs F'' s'' st' qs => ?_)
  exact ho n A F'' s'' (_ :: vs) _ res H.ok H.bud st'.wd (.cons (st'.brep st.wd q.brep) qs.brep) e2 _ _ (hQ.after (st.trans st'))
end
end Mine
end MpHx
section MpIx
open PySem PySem.Calls PyProof.Rows PySem.Builtin.Str
namespace Mine
theorem foldl_arrays {α : Type} (n : Nat) (l : List α) : ((List.replicate n l.toArray).foldl (· ++ ·) #[]) = ((List.replicate n l).flatten).toArray := by
  have : ∀ (m : Nat) (acc : List α), ((List.replicate m l.toArray).foldl (· ++ ·) acc.toArray) = (acc ++ (List.replicate m l).flatten).toArray := by
    intro m
    induction m with
    | zero => intro acc; simp
    | succ m ih =>
      intro acc
      simp only [List.replicate_succ, List.foldl_cons, List.flatten_cons]
      rw [show acc.toArray ++ l.toArray = (acc ++ l).toArray by simp, ih]
      simp
  have := this n []
  simpa using this
section
variable {cx : XCx}
theorem op_mul : OpOK cx .mul (op2 (binaryOp .Mult)) := by
  intro n A F s vs ds r ok bud w q he Q E hQ
  replace he : opMul ds = some r := he
  rcases ds with _ | ⟨a0, t0⟩
  · cases he
  cases a0 <;> try (cases he; done)
  all_goals
    rcases t0 with _ | ⟨a1, t1⟩
    · cases he
    cases a1 <;> try (cases he; done)
    rcases t1 with _ | ⟨a2, t2⟩ <;> try (cases he; done)
  · rename_i a b
    replace he : (if (small a || small b) = true then some (R.val (.int (a * b))) else none) = some r := he
    split at he <;> cases he
    rename_i hs
    obtain ⟨x, y, rfl, qa, qb⟩ := q.two
    obtain ⟨t, rfl⟩ := qa.int_inv
    obtain ⟨u, rfl⟩ := qb.int_inv
    refine P.mul_int (hQ _ F _ ((Step.refl w).toks _) (.val (.int _ _))) ?_
    simp only [Bool.or_eq_true] at hs
    rcases hs with hs | hs
    · have := small_of hs
      exact PySem.IntMulOk.of_left (PySem.intBits_le_64 (by omega) (by omega))
    · have := small_of hs
      exact PySem.IntMulOk.of_right (PySem.intBits_le_64 (by omega) (by omega))
  · rename_i a b
    replace he : (if (small b && decide (a.length * b.toNat ≤ lim)) = true then some (R.val (.str (rep a b))) else none) = some r := he
    split at he <;> cases he
    rename_i hs
    simp only [Bool.and_eq_true, decide_eq_true_eq] at hs
    have hb := small_of hs.1
    have hz := hs.2
    obtain ⟨x, y, rfl, qa, qb⟩ := q.two
    obtain ⟨t, rfl, p, z⟩ := qa.str_inv
    obtain ⟨u, rfl⟩ := qb.int_inv
    have hlen : (PySem.Str.mk a.toArray).length = a.length := by show a.toArray.size = _; rw [List.size_toArray]
    refine SB.mul ⟨by simp; omega, ?_, ?_⟩ ?_
    · intro h1 _ h2
      rw [hlen] at h2
      have : (a.length : Int) ≤ 1000000 := by unfold lim at z; omega
      have h3 : (2 ^ 63 - 1) / b ≥ 1000000 := by
        apply Int.le_ediv_of_mul_le (by omega)
        omega
      omega
    · intro h1 _
      rw [hlen]
      unfold tooLong
      simp only [decide_eq_false_iff_not]
      have := sz_line hz
      omega
    · intro t' k
      have hlen2 : (rep a b).length = a.length * b.toNat := by
        unfold rep
        simp [Nat.mul_comm]
      have e : Txt.mul ⟨a.toArray⟩ b = ⟨(rep a b).toArray⟩ := by
        unfold Txt.mul rep
        split
        · rename_i h1
          have : b.toNat = 0 := by omega
          rw [this]; rfl
        · split
          · rename_i h1 h2
            simp only [Bool.or_eq_true, beq_iff_eq] at h2
            rcases h2 with h2 | h2
            · subst h2; simp
            · rw [hlen, List.length_eq_zero_iff] at h2; subst h2
              simp
          · show PySem.Str.mk _ = _
            rw [foldl_arrays]
      rw [e]
      refine hQ _ F _ ((Step.refl w).toks k) (.val (.str _ (fun c hc => ?_) (by rw [hlen2]; exact hz)))
      unfold rep at hc
      obtain ⟨l, hl, hc⟩ := List.mem_flatten.mp hc
      rw [(List.mem_replicate.mp hl).2] at hc
      exact p c hc
  · rename_i a b
    replace he : (if (small b && decide (a.length * b.toNat ≤ lim)) = true then some (R.own (rep a b)) else none) = some r := he
    split at he <;> cases he
    rename_i hs
    simp only [Bool.and_eq_true, decide_eq_true_eq] at hs
    have hb := small_of hs.1
    have hz := hs.2
    obtain ⟨x, y, rfl, qa, qb⟩ := q.two
    obtain ⟨l, vs, k, rfl, nx, g, z, ql⟩ := qa.list_inv w
    obtain ⟨u, rfl⟩ := qb.int_inv
    have hsz : vs.toArray.size * b.toNat ≤ 2 ^ 24 := by
      rw [List.size_toArray, ql.length]; unfold lim at hz; omega
    have hlen2 : (rep vs b).length ≤ lim := by
      unfold rep
      simp only [List.length_flatten, List.map_replicate, List.sum_replicate_nat]
      rw [ql.length, Nat.mul_comm]; exact hz
    have e : (List.foldl (fun x1 x2 => x1 ++ x2) #[] (List.replicate (if vs.toArray.isEmpty = true then 0 else b.toNat) vs.toArray)) = (rep vs b).toArray := by
      unfold rep
      split
      · rename_i h1
        have : vs = [] := by simpa using h1
        subst this
        simp
      · rw [foldl_arrays]
    refine wpAny_binaryOp_repeat_ref (T := "list") (U := "int") (by decide) ⟨_, g, rfl⟩ (fun s' => typeIs_int s' b u) noFill_list_mul PySem.F.fills_int_mul PySem.F.slot_int_rmul repeat_list PySem.F.slot_int_index.lookup
      (call_meets PySem.F.slot_int_rmul (typeIs_int s b u) PySem.F.entry_int_rmul (PySem.F.args_int_rmul_2 _ _) (int___rmul___int_list b u l vs.toArray k)
        ⟨g, rfl, ⟨_, g, rfl⟩, call_meets PySem.F.slot_list_mul ⟨_, g, rfl⟩ PySem.F.entry_list_mul (PySem.F.args_list_mul_2 _ _)
          (AutoListH.list___mul___list_int_3 l vs.toArray k b u (by simp [Builtin.List.listFitsIndex]; omega) (by omega) (by simp [Builtin.List.listTooLong, sizeLine]; omega))
          ⟨g, ?_⟩⟩)
    rw [e]
    exact hQ _ F _ (Step.push ok w _ _) (.pushOwn w hlen2 (ql.rep _))
theorem is_same (ok : CxOk cx) {F : Addr → Prop} {s : Shared} {A : Around} {x y : Value} {a b : D} {c : Bool} (w : Wd cx F s) (qa : BRep cx F s.heap x a) (qb : BRep cx F s.heap y b) (hc : isD a b = some c) {Q : Bool → Shared → Prop} {E : Value → Shared → Prop} (h : Q c s) :
    wpAny (model cx.prog cx.w) A (isSame x y) Q E s := by
  have notNone : ∀ {v : Value} {d : D}, BRep cx F s.heap v d → (match d with | .none => False | .ty _ => False | _ => True) → v ≠ .none := by
    intro v d q hd e
    subst e
    cases q with
    | rep q => cases q; exact hd
  cases a <;> cases b <;> cases hc
  · rw [qa.none_inv, qb.none_inv]; exact wpAny_isSame_plain rfl h
  · cases qb with | rep qb => cases qb with | tok f g => rw [qa.none_inv]; exact wpAny_isSame_plain rfl h
  · rw [qa.bool_inv, qb.none_inv]; exact wpAny_isSame_plain rfl h
  · obtain ⟨t, rfl⟩ := qa.int_inv; rw [qb.none_inv]; exact wpAny_isSame_plain rfl h
  · obtain ⟨t, rfl, _, _⟩ := qa.str_inv; rw [qb.none_inv]; exact wpAny_isSame_plain rfl h
  · cases qb with | rep qb => cases qb with | tok f g => obtain ⟨t, rfl, _, _⟩ := qa.str_inv; exact wpAny_isSame_plain rfl h
  · obtain ⟨a, vs, n, rfl, _⟩ := qa.list_inv w; rw [qb.none_inv]; exact wpAny_isSame_plain rfl h
  · obtain ⟨a, vs, n, rfl, _⟩ := qa.tup_inv; rw [qb.none_inv]; exact wpAny_isSame_plain rfl h
  · cases qa with | rep qa => cases qa with | tok f g => rw [qb.none_inv]; exact wpAny_isSame_plain rfl h
  · cases qa with | rep qa => cases qa with | tok f g => obtain ⟨t, rfl, _, _⟩ := qb.str_inv; exact wpAny_isSame_plain rfl h
  · rename_i i j
    cases qa with | rep qa => cases qb with | rep qb =>
      cases qa with | tok f g => cases qb with | tok f' g' =>
        by_cases e : i = j
        · subst e
          simp only [decide_true] at h
          exact wpAny_isSame_ref_self h
        · rw [decide_eq_false e] at h
          exact wpAny_isSame_ref_other (fun e' => e (ok.tinj _ _ e')) g g' (by show Value.type "list" ≠ Value.type "tuple"; decide) h
  · rename_i m n
    rw [qa.ty_inv, qb.ty_inv]
    refine wpAny_isSame_plain rfl ?_
    have e : (Value.type m == Value.type n) = decide (m = n) := by
      by_cases e : m = n
      · subst e; simp
      · simp [e]
    rw [e]; exact h
theorem op_is : OpOK cx .is_ (op2 (compareOp .Is)) := by
  intro n A F s vs ds r ok bud w q he
  refine cmp_ok w q he fun x y a b c qa qb hc Q E h => ?_
  show wpAny _ A (do return .bool (← isSame x y)) Q E s
  exact wpAny_bind (is_same ok w qa qb hc (wpAny_pure (h s.toks)))
theorem op_isnot : OpOK cx .isnot (op2 (compareOp .IsNot)) := by
  intro n A F s vs ds r ok bud w q he
  refine cmp_ok w q he fun x y a b c qa qb hc Q E h => ?_
  obtain ⟨c', hc', rfl⟩ := Option.map_eq_some_iff.mp hc
  show wpAny _ A (do return .bool (!(← isSame x y))) Q E s
  exact wpAny_bind (is_same ok w qa qb hc' (wpAny_pure (h s.toks)))
theorem op_len : OpOK cx .len (fun vs => call (.builtin "len") vs) := by
  intro n A F s vs ds r ok bud w q he Q E hQ
  replace he : opLen ds = some r := he
  rcases ds with _ | ⟨a0, t0⟩
  · cases he
  cases a0 <;> try (cases he; done)
  all_goals
    rcases t0 with _ | ⟨a1, t1⟩ <;> cases he
  · obtain ⟨x, rfl, qa⟩ := q.one
    obtain ⟨t, rfl, p, z⟩ := qa.str_inv
    rename_i l
    have e : (PySem.Str.mk l.toArray).length = l.length := by show l.toArray.size = _; rw [List.size_toArray]
    refine P.len_str (by rw [e]; have := sz_lt z; omega) ?_
    rw [e]
    exact hQ _ F _ ((Step.refl w).toks _) (.val (.int _ _))
  · obtain ⟨x, rfl, qa⟩ := q.one
    obtain ⟨a, vs, k, rfl, nx, g, z, ql⟩ := qa.list_inv w
    refine PyProof.Rows.len_list (isList_of g) (by rw [List.size_toArray]; exact sz_lt z) ?_
    rw [List.size_toArray, ql.length]
    exact hQ _ F _ ((Step.refl w).toks _) (.val (.int _ _))
  · obtain ⟨x, rfl, qa⟩ := q.one
    obtain ⟨a, vs, k, rfl, f, g, z, ql⟩ := qa.tup_inv
    refine PyProof.Rows.len_tuple (isTup_of g) (by rw [List.size_toArray]; exact sz_lt z) ?_
    rw [List.size_toArray, ql.length]
    exact hQ _ F _ ((Step.refl w).toks _) (.val (.int _ _))
theorem op_abs : OpOK cx .abs (fun vs => call (.builtin "abs") vs) := by
  intro n A F s vs ds r ok bud w q he Q E hQ
  delta opF at he; dsimp only at he
  unfold opAbs at he
  split at he <;> cases he
  rename_i i
  obtain ⟨x, rfl, qa⟩ := q.one
  obtain ⟨t, rfl⟩ := qa.int_inv
  refine PyProof.Rows.call_abs_int fun u tk => ?_
  have e : (if i < 0 then -i else i) = (i.natAbs : Int) := by omega
  rw [e]
  exact hQ _ F _ ((Step.refl w).toks _) (.val (.int _ _))
theorem toInts_rep {F : Addr → Prop} {h : Heap} : ∀ {l : List D} {is : List Int} {vs : List Value}, toInts l = some is → RepL cx.T F h vs l → ∀ (i : Nat) v, vs[i]? = some v → ∃ t, v = .int (is.getD i 0) t := by
  intro l
  induction l with
  | nil => intro is vs e q i v hv; cases q; cases hv
  | cons d r ih =>
    intro is vs e q
    cases d <;> try (cases e; done)
    obtain ⟨is', e', rfl⟩ := Option.map_eq_some_iff.mp (show (toInts r).map _ = some is from e)
    cases q with
    | cons a b =>
      obtain ⟨t, e2⟩ := (BRep.rep (cx := cx) a).int_inv
      intro i v hv
      cases i with
      | zero => exact ⟨t, (Option.some.inj hv).symm.trans e2⟩
      | succ i => exact ih e' b i v hv
theorem toInts_length : ∀ {l : List D} {is : List Int}, toInts l = some is → is.length = l.length
  | [], is, e => by cases e; rfl
  | d :: r, is, e => by
    cases d <;> try (cases e; done)
    obtain ⟨is', e', rfl⟩ := Option.map_eq_some_iff.mp (show (toInts r).map _ = some is from e)
    simp [toInts_length e']
theorem op_sum : OpOK cx .sum (fun vs => call (.builtin "sum") vs) := by
  intro n A F s vs ds r ok bud w q he Q E hQ
  delta opF at he; dsimp only at he
  unfold opSum at he
  split at he
  · rename_i l
    obtain ⟨is, e1, e2⟩ := Option.map_eq_some_iff.mp he
    cases e2
    obtain ⟨x, rfl, qa⟩ := q.one
    obtain ⟨a, vs, k, rfl, nx, g, z, ql⟩ := qa.list_inv w
    refine call_sum_walkG (wpAny_pyIter_list (isList_of g) ?_)
    have hne : a ≠ s.heap.objs.size := Nat.ne_of_lt (Heap.lt_size g)
    refine ⟨s.heap.objs.size, _, _, _, _, _, fun i => is.getD i 0, rfl, Walks.list (A := A.in1) bud.hd _ a hne vs.toArray, ⟨⟨_, Heap.get?_push_size _ rfl, rfl, rfl⟩, isList_of (Heap.get?_push_of_some _ g)⟩, ?_, ?_, ?_⟩
    · intro b hb
      simp only [List.mem_cons, List.not_mem_nil, or_false] at hb
      rw [Heap.size_push]
      rcases hb with rfl | rfl
      · exact Nat.lt_succ_self _
      · exact Nat.lt_succ_of_lt (Heap.lt_size g)
    · intro i v hv
      exact toInts_rep e1 ql i v (by simpa using hv)
    · intro h' tk t' hk
      have e : preSum (fun i => is.getD i 0) vs.toArray.size = is.sum := by
        rw [preSum_getD, List.size_toArray, ql.length, ← toInts_length e1, List.take_length]
      rw [e]
      refine hQ _ F _ (Step.grown ok w _ fun b o hb => ?_) (.val (.int _ _))
      refine hk b o ?_ (Heap.get?_push_of_some _ hb)
      simp only [List.mem_cons, List.not_mem_nil, or_false]
      rintro rfl
      rw [fresh_size] at hb; cases hb
  · cases he
end
end Mine
end MpIx
section MpJx
open PySem PySem.Calls PyProof.Rows PySem.Builtin.Str
namespace Mine
theorem mk_length (l : List Nat) : (PySem.Str.mk l.toArray).length = l.length := by show l.toArray.size = _; rw [List.size_toArray]
theorem strSub_sub (x : PySem.Str) (lo hi : Nat) : (∀ c ∈ (strSub x lo hi).cps.toList, c ∈ x.cps.toList) ∧ (strSub x lo hi).cps.size ≤ x.cps.size := by
  unfold strSub
  constructor
  · intro c hc
    simp only [Array.mem_toList_iff] at hc ⊢
    obtain ⟨i, hi, e⟩ := Array.mem_iff_getElem.mp hc
    rw [Array.getElem_extract] at e
    exact Array.mem_iff_getElem.mpr ⟨_, _, e⟩
  · simp only [Array.size_extract]; omega
section
variable {cx : XCx}
theorem str_rep {F : Addr → Prop} {h : Heap} {l : List Nat} (p : ∀ c ∈ l, c < 0x110000) (z : l.length ≤ lim) {y : PySem.Str} (t : Tok) (h1 : ∀ c ∈ y.cps.toList, c ∈ l) (h2 : y.cps.size ≤ l.length) : Rep cx.T F h (.str y t) (.str y.cps.toList) :=
  Rep.str (l := y.cps.toList) t (fun c hc => p c (h1 c hc)) (by rw [Array.length_toList]; omega)
theorem str2_ok {f : PySem.Str → PySem.Str → R} {vs : List Value} {ds : List D} {F : Addr → Prop} {s : Shared} {A : Around} {r : R} {id : String} (w : Wd cx F s) (q : BRepL cx F s.heap vs ds) (he : opStr2 f ds = some r)
    (h : ∀ (a b : List Nat) (t u : Tok), (∀ c ∈ a, c < 0x110000) → a.length ≤ lim → ∀ (Q : Value → Shared → Prop) (E : Value → Shared → Prop), (∀ v k, RepR cx F s.heap s.heap v (f ⟨a.toArray⟩ ⟨b.toArray⟩) → Q v { s with toks := k }) →
      wpAny (model cx.prog cx.w) A (call (.builtin id) [.str ⟨a.toArray⟩ t, .str ⟨b.toArray⟩ u]) Q E s) : Ev cx A F s (call (.builtin id) vs) r := by
  intro Q E hQ
  unfold opStr2 at he
  split at he <;> cases he
  obtain ⟨x, y, rfl, qa, qb⟩ := q.two
  obtain ⟨t, rfl, p, z⟩ := qa.str_inv
  obtain ⟨u, rfl, _, _⟩ := qb.str_inv
  exact h _ _ t u p z Q E fun v k rv => hQ v F _ ((Step.refl w).toks k) rv
theorem op_rfind : OpOK cx .rfind (fun vs => call (.builtin "str.rfind") vs) := by
  intro n A F s vs ds r ok bud w q he
  delta opF at he; dsimp only at he
  exact str2_ok w q he fun a b t u p z Q E h => SC.rfind (h _ _ (.val (.int _ _)))
theorem op_startswith : OpOK cx .startswith (fun vs => call (.builtin "str.startswith") vs) := by
  intro n A F s vs ds r ok bud w q he
  delta opF at he; dsimp only at he
  exact str2_ok w q he fun a b t u p z Q E h => SC.startswith (h _ s.toks (.val (.bool _)))
theorem op_endswith : OpOK cx .endswith (fun vs => call (.builtin "str.endswith") vs) := by
  intro n A F s vs ds r ok bud w q he
  delta opF at he; dsimp only at he
  exact str2_ok w q he fun a b t u p z Q E h => SC.endswith (h _ s.toks (.val (.bool _)))
theorem stripBy_sub (g : Nat → Bool) (l r : Bool) (x : PySem.Str) : (∀ c ∈ (Txt.stripBy g l r x).cps.toList, c ∈ x.cps.toList) ∧ (Txt.stripBy g l r x).cps.size ≤ x.cps.size := by
  unfold Txt.stripBy
  split
  · exact ⟨fun _ h => h, Nat.le_refl _⟩
  · exact strSub_sub _ _ _
theorem op_rstrip : OpOK cx .rstrip (fun vs => call (.builtin "str.rstrip") vs) := by
  intro n A F s vs ds r ok bud w q he
  delta opF at he; dsimp only at he
  refine str2_ok w q he fun a b t u p z Q E h => SC.rstripChars (fun t' k => h _ k (.val ?_)) (by rw [mk_length]; exact sz_line z)
  have := stripBy_sub (PySem.Str.mk b.toArray).cps.contains false true ⟨a.toArray⟩
  exact str_rep p z t' this.1 (by have h2 := this.2; rw [show (PySem.Str.mk a.toArray).cps.size = a.length from List.size_toArray ..] at h2; exact h2)
theorem op_lstrip : OpOK cx .lstrip (fun vs => call (.builtin "str.lstrip") vs) := by
  intro n A F s vs ds r ok bud w q he
  delta opF at he; dsimp only at he
  refine str2_ok w q he fun a b t u p z Q E h => SC.lstripChars (fun t' k => h _ k (.val ?_)) (by rw [mk_length]; exact sz_line z)
  have := stripBy_sub (PySem.Str.mk b.toArray).cps.contains true false ⟨a.toArray⟩
  exact str_rep p z t' this.1 (by have h2 := this.2; rw [show (PySem.Str.mk a.toArray).cps.size = a.length from List.size_toArray ..] at h2; exact h2)
end
end Mine
end MpJx
section MpKx
open PySem PySem.Calls PyProof.Rows PySem.Builtin.Str
namespace Mine
section
variable {cx : XCx}
theorem strs_of {F : Addr → Prop} {h : Heap} : ∀ {l : List D} {ls : List (List Nat)} {vs : List Value}, toStrs l = some ls → RepL cx.T F h vs l →
    ∃ ps : List (PySem.Str × Tok), vs = strValues ps ∧ ps.map (·.1) = ls.map (fun x => PySem.Str.mk x.toArray) ∧ (∀ x ∈ ls, (∀ c ∈ x, c < 0x110000) ∧ x.length ≤ lim)
  | [], ls, _, e, .nil => by cases e; exact ⟨[], rfl, rfl, fun _ h => nomatch h⟩
  | d :: r, ls, _, e, .cons a b => by
    cases d <;> simp only [toStrs] at e <;> try cases e
    obtain ⟨ls', e', rfl⟩ := Option.map_eq_some_iff.mp e
    obtain ⟨ps, rfl, h2, h3⟩ := strs_of e' b
    cases a with
    | str t p z =>
      refine ⟨(_, t) :: ps, rfl, by simp [h2], fun x hx => ?_⟩
      rcases List.mem_cons.mp hx with rfl | hx
      · exact ⟨p, z⟩
      · exact h3 x hx
theorem foldl_glue (s : List Nat) : ∀ (ls : List (List Nat)) (acc : List Nat), ((ls.map fun x => PySem.Str.mk x.toArray).foldl (fun (acc : Array Nat) p => acc ++ (PySem.Str.mk s.toArray).cps ++ p.cps) acc.toArray) = (acc ++ (ls.map fun x => s ++ x).flatten).toArray
  | [], acc => by simp
  | x :: r, acc => by
    rw [List.map_cons, List.foldl_cons]
    have e : (acc.toArray ++ (PySem.Str.mk s.toArray).cps ++ (PySem.Str.mk x.toArray).cps) = (acc ++ s ++ x).toArray := by simp
    rw [e, foldl_glue s r]
    simp
theorem joinL_cons (s a : List Nat) : ∀ r : List (List Nat), joinL s (a :: r) = a ++ (r.map fun x => s ++ x).flatten
  | [] => by simp [joinL]
  | b :: r => by
    rw [joinL, joinL_cons s b r]
    · simp
    · intro h; cases h
theorem glued_join (s : List Nat) (ls : List (List Nat)) : glued ⟨s.toArray⟩ (ls.map fun x => PySem.Str.mk x.toArray) = ⟨(joinL s ls).toArray⟩ := by
  unfold glued
  cases ls with
  | nil => rfl
  | cons a r =>
    simp only [List.map_cons, List.drop_succ_cons, List.drop_zero, List.headD_cons]
    have := foldl_glue s r a
    simp only [joinL_cons]
    exact congrArg PySem.Str.mk this
theorem joinL_mem {s : List Nat} {c : Nat} : ∀ {ls : List (List Nat)}, c ∈ joinL s ls → c ∈ s ∨ ∃ x ∈ ls, c ∈ x
  | [], h => by simp [joinL] at h
  | a :: r, h => by
    rw [joinL_cons, List.mem_append] at h
    rcases h with h | h
    · exact .inr ⟨a, List.mem_cons_self, h⟩
    · simp only [List.mem_flatten, List.mem_map] at h
      obtain ⟨l, ⟨x, hx, rfl⟩, hc⟩ := h
      rcases List.mem_append.mp hc with h | h
      · exact .inl h
      · exact .inr ⟨x, List.mem_cons_of_mem _ hx, h⟩
theorem joinSize (s : PySem.Str) : ∀ (xs : List PySem.Str) (k : Nat), xs.toArray.foldl (fun n x => n + x.length + s.length) k = k + (xs.map fun x => x.length + s.length).sum := by
  intro xs
  induction xs with
  | nil => intro k; simp
  | cons x r ih =>
    intro k
    have := ih (k + x.length + s.length)
    simp only [List.foldl_toArray, List.foldl_cons, List.map_cons, List.sum_cons] at this ⊢
    rw [this]; omega
theorem joinL_length (s : List Nat) (a : List Nat) (r : List (List Nat)) : (joinL s (a :: r)).length = a.length + (r.map fun x => s.length + x.length).sum := by
  rw [joinL_cons, List.length_append, List.length_flatten, List.map_map]
  congr 2
  apply List.map_congr_left
  intro x _
  simp
theorem op_join : OpOK cx .join (fun vs => call (.builtin "str.join") vs) := by
  intro n A F s vs ds r ok bud w q he Q E hQ
  delta opF at he; dsimp only at he
  unfold opJoin at he
  split at he
  · rename_i a l
    split at he
    · rename_i ls e1
      split at he <;> cases he
      rename_i hz
      obtain ⟨x, y, rfl, qa, qb⟩ := q.two
      obtain ⟨t, rfl, p, z⟩ := qa.str_inv
      obtain ⟨D, vs, k, rfl, nx, g, zl, ql⟩ := qb.list_inv w
      obtain ⟨ps, rfl, h2, h3⟩ := strs_of e1 ql
      refine SC.join (l := ps) (texts := ls.map fun x => PySem.Str.mk x.toArray) (isList_of g) h2 ?_ fun t' k => ?_
      · unfold JoinOk tooLong
        rw [joinSize, Nat.zero_add, List.map_map]
        simp only [Bool.not_eq_true', decide_eq_false_iff_not]
        rw [sizeLine_eq]
        unfold lim at hz z
        cases ls with
        | nil => simp
        | cons b r =>
          rw [joinL_length] at hz
          simp only [List.map_cons, List.sum_cons, Function.comp, mk_length]
          have e : (List.map ((fun x => x.length + a.length) ∘ fun x => PySem.Str.mk x.toArray) r).sum = (r.map fun x => a.length + x.length).sum := by
            congr 1
            apply List.map_congr_left
            intro x _
            show (PySem.Str.mk x.toArray).length + a.length = _
            rw [mk_length, Nat.add_comm]
          rw [e]
          omega
      · unfold Txt.join
        rw [glued_join]
        refine hQ _ F _ ((Step.refl w).toks k) (.val (.str t' (fun c hc => ?_) hz))
        rcases joinL_mem hc with hc | ⟨x, hx, hc⟩
        · exact p c hc
        · exact (h3 x hx).1 c hc
    · cases he
  · cases he
theorem numbered_rep {F : Addr → Prop} {h : Heap} (a : List Nat) (p : ∀ c ∈ a, c < 0x110000) (z : a.length ≤ lim) : ∀ {l : List (PySem.Str × Tok)} {xs : List PySem.Str}, l.map (·.1) = xs → (∀ x ∈ xs, (∀ c ∈ x.cps.toList, c ∈ a) ∧ x.cps.size ≤ a.length) →
    RepL cx.T F h (strValues l) (xs.map fun x => .str x.cps.toList)
  | [], _, rfl, _ => .nil
  | (x, t) :: l, _, rfl, hx => by
    have h1 := hx x List.mem_cons_self
    refine .cons (str_rep p z t h1.1 h1.2) (numbered_rep a p z rfl fun y hy => hx y (List.mem_cons_of_mem _ hy))
theorem parts_sub (x y : PySem.Str) : (∀ z ∈ Txt.split x y, (∀ c ∈ z.cps.toList, c ∈ x.cps.toList) ∧ z.cps.size ≤ x.cps.size) := by
  intro z hz
  unfold Txt.split at hz
  have self : ∀ z ∈ [x], (∀ c ∈ z.cps.toList, c ∈ x.cps.toList) ∧ z.cps.size ≤ x.cps.size := fun z hz => by
    rw [List.mem_singleton.mp hz]; exact ⟨fun _ h => h, Nat.le_refl _⟩
  split at hz
  · exact self z hz
  · split at hz
    · exact self z hz
    · unfold partsBetween at hz
      obtain ⟨⟨i, j⟩, _, rfl⟩ := List.mem_map.mp hz
      exact strSub_sub _ _ _
theorem split_length (x y : PySem.Str) : (Txt.split x y).length ≤ x.length + 2 := by
  unfold Txt.split
  split
  · simp
  · split
    · simp
    · rw [length_partsBetween]
      have := StrLaws.occ_length_le x y 0 x.length (x.length + 1)
      omega
theorem op_split : OpOK cx .split (fun vs => call (.builtin "str.split") vs) := by
  intro n A F s vs ds r ok bud w q he Q E hQ
  delta opF at he; dsimp only at he
  unfold opSplit at he
  split at he
  · rename_i a b
    split at he <;> cases he
    rename_i hz
    obtain ⟨x, y, rfl, qa, qb⟩ := q.two
    obtain ⟨t, rfl, p, z⟩ := qa.str_inv
    obtain ⟨u, rfl, _, _⟩ := qb.str_inv
    have hfin : ∀ (l : List (PySem.Str × Tok)) (k : Nat), l.map (·.1) = Txt.split ⟨a.toArray⟩ ⟨b.toArray⟩ → Q (.ref s.heap.objs.size) { s with heap := s.heap.push (lobj (strValues l).toArray 0), toks := k } := by
      intro l k hl
      have hx : ∀ x ∈ Txt.split ⟨a.toArray⟩ ⟨b.toArray⟩, (∀ c ∈ x.cps.toList, c ∈ a) ∧ x.cps.size ≤ a.length := fun x hx => by
        have h2 := parts_sub _ _ x hx
        rw [show (PySem.Str.mk a.toArray).cps.size = a.length from List.size_toArray ..] at h2
        exact h2
      have hr := numbered_rep (cx := cx) (F := F) (h := s.heap) a p z hl hx
      have hlen : (strValues l).length ≤ lim := by
        rw [hr.length, List.length_map]
        have := split_length ⟨a.toArray⟩ ⟨b.toArray⟩
        rw [mk_length] at this
        omega
      exact hQ _ F _ (Step.push ok w _ _) (.pushOwn w hlen hr)
    have hy : ((PySem.Str.mk b.toArray).length == 0) = false := by rw [mk_length, hz.1]; rfl
    have hsz : (PySem.Str.mk a.toArray).length ≤ sizeLine := by rw [mk_length]; exact sz_line z
    cases h1 : (decide ((PySem.Str.mk a.toArray).length < (PySem.Str.mk b.toArray).length) || decide (strKind ⟨a.toArray⟩ < strKind ⟨b.toArray⟩))
    · cases hf : (occurrences ⟨a.toArray⟩ ⟨b.toArray⟩ 0 (PySem.Str.mk a.toArray).length ((PySem.Str.mk a.toArray).length + 1)).isEmpty
      · have hs : Txt.split ⟨a.toArray⟩ ⟨b.toArray⟩ = partsBetween ⟨a.toArray⟩ (occurrences ⟨a.toArray⟩ ⟨b.toArray⟩ 0 (PySem.Str.mk a.toArray).length ((PySem.Str.mk a.toArray).length + 1)) (PySem.Str.mk b.toArray).length := by
          unfold Txt.split; rw [h1, hf]; rfl
        have hsz2 : (partsBetween ⟨a.toArray⟩ (occurrences ⟨a.toArray⟩ ⟨b.toArray⟩ 0 (PySem.Str.mk a.toArray).length ((PySem.Str.mk a.toArray).length + 1)) (PySem.Str.mk b.toArray).length).length ≤ sizeLine := by
          rw [← hs]
          have := split_length ⟨a.toArray⟩ ⟨b.toArray⟩
          rw [mk_length] at this
          exact sz_line (by omega)
        refine call_meets PySem.F.slot_str_split (typeIs_str _ _ _) PySem.F.entry_str_split (PySem.F.args_str_split_2 _ _) (meets_str_split_sep _ _ t u h1 hy hf hsz hsz2) ?_
        show wants Q E _ { s with toks := _, heap := s.heap.push { cls := .type "list", data := .seq (strsFrom s.toks (partsBetween _ _ _)).toArray } }
        rw [strsFrom_eq]
        exact hfin (numbered s.toks _) _ ((numbered_texts _ _).trans hs.symm)
      · have hs : Txt.split ⟨a.toArray⟩ ⟨b.toArray⟩ = [⟨a.toArray⟩] := by unfold Txt.split; rw [h1, hf]; rfl
        exact call_meets PySem.F.slot_str_split (typeIs_str _ _ _) PySem.F.entry_str_split (PySem.F.args_str_split_2 _ _) (meets_str_split_not_found _ _ t u h1 hy hf) (hfin [(_, t)] s.toks hs.symm)
    · have hs : Txt.split ⟨a.toArray⟩ ⟨b.toArray⟩ = [⟨a.toArray⟩] := by unfold Txt.split; rw [h1]; rfl
      exact call_meets PySem.F.slot_str_split (typeIs_str _ _ _) PySem.F.entry_str_split (PySem.F.args_str_split_2 _ _) (meets_str_split_cannot_occur _ _ t u h1) (hfin [(_, t)] s.toks hs.symm)
  · cases he
theorem op_tyOf : OpOK cx .tyOf (fun vs => call (.type "type") vs) := by
  intro n A F s vs ds r ok bud w q he Q E hQ
  delta opF at he; dsimp only at he
  rcases ds with _ | ⟨d, _ | ⟨c, t⟩⟩
  · cases he
  · replace he : (tyD d).map (fun n => R.val (.ty n)) = some r := he
    obtain ⟨x, rfl, qa⟩ := q.one
    obtain ⟨T, e1, e2⟩ := Option.map_eq_some_iff.mp he
    cases e2
    have key : s.TypeIs x T ∧ (Value.type T == Value.type "builtin_function_or_method") = false := by
      cases d <;> cases e1
      · rw [qa.bool_inv]; exact ⟨rfl, by decide⟩
      · obtain ⟨t, rfl⟩ := qa.int_inv; exact ⟨typeIs_int s _ _, by decide⟩
      · obtain ⟨t, rfl, _, _⟩ := qa.str_inv; exact ⟨typeIs_str s _ _, by decide⟩
      · obtain ⟨a, vs, n, rfl, nx, g, _, _⟩ := qa.list_inv w; exact ⟨⟨_, g, rfl⟩, by decide⟩
      · obtain ⟨a, vs, n, rfl, f, g, _, _⟩ := qa.tup_inv; exact ⟨⟨_, g, rfl⟩, by decide⟩
      · cases qa with | rep qa => cases qa with | tok f g => exact ⟨⟨_, g, rfl⟩, by decide⟩
    exact call_type_of key.1 key.2 (hQ _ F _ (Step.refl w) (.val (.ty _)))
  · cases he
theorem RepL.two_ty {T : Nat → Addr} {F : Addr → Prop} {h : Heap} {vs : List Value} {a b : String} (q : RepL T F h vs [.ty a, .ty b]) : vs = [.type a, .type b] := by
  cases q with
  | cons qa q => cases q with
    | cons qb q =>
      cases q
      cases qa
      cases qb
      rfl
inductive IsInstI : List D → R → Prop
  | s1 (l : List Nat) : IsInstI [.str l, .ty "str"] (.val (.bool true))
  | s2 (l : List Nat) : IsInstI [.str l, .ty "bytes"] (.val (.bool false))
  | s3 (l : List Nat) : IsInstI [.str l, .tup [.ty "list", .ty "tuple"]] (.val (.bool false))
  | s4 (l : List D) : IsInstI [.list l, .tup [.ty "list", .ty "tuple"]] (.val (.bool true))
theorem if_inv {α : Type} {p : Prop} [Decidable p] {x y : α} (h : (if p then some x else none) = some y) : p ∧ x = y := by
  by_cases q : p
  · rw [if_pos q] at h; exact ⟨q, Option.some.inj h⟩
  · rw [if_neg q] at h; cases h
theorem isInst_inv {ds : List D} {r : R} (he : opIsInst ds = some r) : IsInstI ds r := by
  rcases ds with _ | ⟨a, t⟩
  · cases he
  cases a <;> try (cases he; done)
  · rcases t with _ | ⟨b, t⟩
    · cases he
    cases b <;> try (cases he; done)
    · rename_i l m
      rcases m with _ | ⟨x, m⟩
      · cases he
      cases x <;> try (cases he; done)
      rcases m with _ | ⟨y, m⟩
      · cases he
      cases y <;> try (cases he; done)
      rcases m with _ | ⟨z, m⟩ <;> try (cases he; done)
      rcases t with _ | ⟨z, t⟩ <;> try (cases he; done)
      obtain ⟨⟨rfl, rfl⟩, rfl⟩ := if_inv he
      exact .s3 _
    · rename_i l n
      rcases t with _ | ⟨z, t⟩ <;> try (cases he; done)
      have e : (if n = "str" then some (R.val (.bool true)) else if n = "bytes" then some (.val (.bool false)) else none) = some r := he
      by_cases q : n = "str"
      · rw [if_pos q] at e; cases e; subst q; exact .s1 _
      · rw [if_neg q] at e
        obtain ⟨rfl, rfl⟩ := if_inv e
        exact .s2 _
  · rcases t with _ | ⟨b, t⟩
    · cases he
    cases b <;> try (cases he; done)
    rename_i l m
    rcases m with _ | ⟨x, m⟩
    · cases he
    cases x <;> try (cases he; done)
    rcases m with _ | ⟨y, m⟩
    · cases he
    cases y <;> try (cases he; done)
    rcases m with _ | ⟨z, m⟩ <;> try (cases he; done)
    rcases t with _ | ⟨z, t⟩ <;> try (cases he; done)
    obtain ⟨⟨rfl, rfl⟩, rfl⟩ := if_inv he
    exact .s4 _
theorem op_isInst : OpOK cx .isInst (fun vs => call (.builtin "isinstance") vs) := by
  intro n A F s vs ds r ok bud w q he Q E hQ
  cases isInst_inv (show opIsInst ds = some r from he) with
  | s1 l =>
    obtain ⟨x, y, rfl, qa, qb⟩ := q.two
    obtain ⟨t, rfl, _, _⟩ := qa.str_inv
    rw [qb.ty_inv]
    exact IsiPair.str_str (hQ _ F _ (Step.refl w) (.val (.bool _)))
  | s2 l =>
    obtain ⟨x, y, rfl, qa, qb⟩ := q.two
    obtain ⟨t, rfl, _, _⟩ := qa.str_inv
    rw [qb.ty_inv]
    exact IsiPair.str_bytes (hQ _ F _ ((Step.refl w).toks _) (.val (.bool _)))
  | s3 l =>
    obtain ⟨x, y, rfl, qa, qb⟩ := q.two
    obtain ⟨t, rfl, _, _⟩ := qa.str_inv
    obtain ⟨a, vs, k, rfl, f, g, z, q3⟩ := qb.tup_inv
    have e2 := q3.two_ty
    subst e2
    exact call_isi_str g fun tk => hQ _ F _ ((Step.refl w).toks _) (.val (.bool _))
  | s4 l =>
    obtain ⟨x, y, rfl, qa, qb⟩ := q.two
    obtain ⟨l, ws, j, rfl, nx, gl, _, _⟩ := qa.list_inv w
    obtain ⟨a, vs, k, rfl, f, g, z, q3⟩ := qb.tup_inv
    have e2 := q3.two_ty
    subst e2
    exact call_isi_list gl g fun tk => hQ _ F _ ((Step.refl w).toks _) (.val (.bool _))
theorem isSub_inv {ds : List D} {r : R} (he : opIsSub ds = some r) : ds = [.ty "str", .tup [.ty "str", .ty "bytes"]] ∧ r = .val (.bool true) := by
  rcases ds with _ | ⟨a, t⟩
  · cases he
  cases a <;> try (cases he; done)
  rcases t with _ | ⟨b, t⟩
  · cases he
  cases b <;> try (cases he; done)
  rename_i l m
  rcases m with _ | ⟨x, m⟩
  · cases he
  cases x <;> try (cases he; done)
  rcases m with _ | ⟨y, m⟩
  · cases he
  cases y <;> try (cases he; done)
  rcases m with _ | ⟨z, m⟩ <;> try (cases he; done)
  rcases t with _ | ⟨z, t⟩ <;> try (cases he; done)
  obtain ⟨⟨rfl, rfl, rfl⟩, rfl⟩ := if_inv he
  exact ⟨rfl, rfl⟩
theorem op_isSub : OpOK cx .isSub (fun vs => call (.builtin "issubclass") vs) := by
  intro n A F s vs ds r ok bud w q he Q E hQ
  obtain ⟨rfl, rfl⟩ := isSub_inv (show opIsSub ds = some r from he)
  obtain ⟨x, y, rfl, qa, qb⟩ := q.two
  rw [qa.ty_inv]
  obtain ⟨a, vs, k, rfl, f, g, z, q3⟩ := qb.tup_inv
  have e2 := q3.two_ty
  subst e2
  exact call_issub_tuple g fun tk => hQ _ F _ ((Step.refl w).toks _) (.val (.bool _))
end
end Mine
end MpKx
section MpLx
open PySem PySem.Calls PyProof.Rows PySem.Builtin.Str
namespace Mine
noncomputable def Mut (env : Env) (ρ : List Slot) (ad : Nat → Addr) (a : Addr) : Prop :=
  a = env.locals ∨ (∃ n, env.cells.lookup n = some a) ∨ ∃ i l, slotAt ρ i = .own l ∧ a = ad i
set_option genInjectivity false in
structure ScOK (ε : Sc) : Prop where
  inj : ∀ x y i, ε.vars.lookup x = some i → ε.vars.lookup y = some i → x = y
set_option genInjectivity false in
structure Frm (cx : XCx) (ε : Sc) (env : Env) (F : Addr → Prop) (s : Shared) (ρ : List Slot) (ad : Nat → Addr) (m cm : Str → Option Value) : Prop where
  en : EnvOK cx ε env F s.heap ρ ad m cm
  lf : ¬ F env.locals
  cf : ∀ n c, env.cells.lookup n = some c → ¬ F c ∧ c ≠ env.locals
  cinj : ∀ n n' c, env.cells.lookup n = some c → env.cells.lookup n' = some c → n = n'
  oinj : ∀ i j l l', slotAt ρ i = .own l → slotAt ρ j = .own l' → ad i = ad j → i = j
  own : ∀ i l, slotAt ρ i = .own l → ¬ F (ad i) ∧ ¬ cx.X (ad i) ∧ (∃ vs n, s.heap.get? (ad i) = some (lobj vs n)) ∧ ad i ≠ env.locals ∧ ∀ n, env.cells.lookup n ≠ some (ad i)
set_option genInjectivity false in
structure StepS (cx : XCx) (env : Env) (F : Addr → Prop) (s : Shared) (ρ : List Slot) (ad : Nat → Addr) (F' : Addr → Prop) (s' : Shared) (ρ' : List Slot) (ad' : Nat → Addr) : Prop where
  sub : ∀ a, F a → F' a
  new : ∀ a, F' a → F a ∨ s.heap.get? a = none ∨ Mut env ρ ad a
  keep : ∀ a o, s.heap.get? a = some o → ¬ cx.X a → ¬ Mut env ρ ad a → s'.heap.get? a = some o
  os : s'.os = s.os
  wd : Wd cx F' s'
  mu : ∀ a, Mut env ρ' ad' a → Mut env ρ ad a ∨ s.heap.get? a = none
theorem slotAt_set (ρ : List Slot) (i : Nat) (sl : Slot) (j : Nat) : slotAt (ρ.set i sl) j = if j = i then (if i < ρ.length then sl else .unset) else slotAt ρ j := by
  unfold slotAt
  simp only [List.getD_eq_getElem?_getD, List.getElem?_set]
  by_cases h : i = j
  · subst h
    simp only [if_true]
    split <;> rfl
  · simp only [if_neg h, if_neg (Ne.symm h)]
theorem ownAt_eq {ρ : List Slot} {i : Nat} {l : List D} (h : ownAt ρ i = some l) : slotAt ρ i = .own l ∧ i < ρ.length := by
  unfold ownAt at h
  split at h
  · rename_i l' e
    cases h
    refine ⟨by unfold slotAt; simp [List.getD, e], ?_⟩
    rcases Nat.lt_or_ge i ρ.length with q | q
    · exact q
    · rw [List.getElem?_eq_none q] at e; cases e
  · cases h
section
variable {cx : XCx} {ε : Sc} {env : Env} {F F' F'' : Addr → Prop} {s s' s'' : Shared} {ρ ρ' ρ'' : List Slot} {ad ad' ad'' : Nat → Addr} {m cm : Str → Option Value}
theorem Frm.isSome (f : Frm cx ε env F s ρ ad m cm) {a : Addr} (h : Mut env ρ ad a) : ∃ o, s.heap.get? a = some o := by
  rcases h with rfl | ⟨n, hn⟩ | ⟨i, l, hi, rfl⟩
  · obtain ⟨o, _, _, e, _⟩ := f.en.ns; exact ⟨o, e⟩
  · obtain ⟨o, e, _⟩ := f.en.cells n a hn; exact ⟨o, e⟩
  · obtain ⟨_, _, ⟨vs, n, e⟩, _⟩ := f.own i l hi; exact ⟨_, e⟩
theorem Frm.notF (f : Frm cx ε env F s ρ ad m cm) {a : Addr} (h : Mut env ρ ad a) : ¬ F a ∧ ¬ cx.X a := by
  rcases h with rfl | ⟨n, hn⟩ | ⟨i, l, hi, rfl⟩
  · exact ⟨f.lf, f.en.lx⟩
  · exact ⟨(f.cf n a hn).1, f.en.cxx n a hn⟩
  · exact ⟨(f.own i l hi).1, (f.own i l hi).2.1⟩
theorem StepS.refl (w : Wd cx F s) : StepS cx env F s ρ ad F s ρ ad := ⟨fun _ h => h, fun _ h => .inl h, fun _ _ e _ _ => e, rfl, w, fun _ h => .inl h⟩
theorem StepS.trans (x : StepS cx env F s ρ ad F' s' ρ' ad') (y : StepS cx env F' s' ρ' ad' F'' s'' ρ'' ad'') : StepS cx env F s ρ ad F'' s'' ρ'' ad'' := by
  have back : ∀ a, ¬ cx.X a → s'.heap.get? a = none → Mut env ρ ad a ∨ s.heap.get? a = none := fun a nx h => by
    by_cases hm : Mut env ρ ad a
    · exact .inl hm
    · right
      cases e : s.heap.get? a with
      | none => rfl
      | some o => rw [x.keep a o e nx hm] at h; cases h
  refine ⟨fun a h => y.sub a (x.sub a h), fun a h => ?_, fun a o e nx nm => ?_, y.os.trans x.os, y.wd, fun a h => ?_⟩
  · rcases y.new a h with q | q | q
    · exact x.new a q
    · rcases back a (y.wd.nx a h) q with q | q
      · exact .inr (.inr q)
      · exact .inr (.inl q)
    · rcases x.mu a q with q | q
      · exact .inr (.inr q)
      · exact .inr (.inl q)
  · refine y.keep a o (x.keep a o e nx nm) nx fun hm => ?_
    rcases x.mu a hm with q | q
    · exact nm q
    · rw [e] at q; cases q
  · rcases y.mu a h with q | q
    · exact x.mu a q
    · by_cases nx : cx.X a
      · obtain ⟨o, e⟩ := x.wd.xex a nx
        rw [e] at q; cases q
      · exact back a nx q
theorem StepS.ofStep (x : Step cx F s F' s') : StepS cx env F s ρ ad F' s' ρ ad := ⟨x.sub, fun a h => (x.new a h).imp id .inl, fun a o e nx _ => x.keep a o e nx, x.os, x.wd, fun _ h => .inl h⟩
theorem Frm.step (f : Frm cx ε env F s ρ ad m cm) (w : Wd cx F s) (x : Step cx F s F' s') : Frm cx ε env F' s' ρ ad m cm := by
  have nf : ∀ {a}, Mut env ρ ad a → ¬ F' a := fun h => by
    obtain ⟨o, e⟩ := f.isSome h
    exact x.notF (f.notF h).1 e
  refine ⟨f.en.step x w, nf (.inl rfl), fun n c hc => ⟨nf (.inr (.inl ⟨n, hc⟩)), (f.cf n c hc).2⟩, f.cinj, f.oinj, fun i l hi => ?_⟩
  obtain ⟨_, nx, ⟨vs, n, e⟩, h4, h5⟩ := f.own i l hi
  exact ⟨nf (.inr (.inr ⟨i, l, hi, rfl⟩)), nx, ⟨vs, n, x.keep _ _ e nx⟩, h4, h5⟩
end
set_option genInjectivity false in
structure HereS (cx : XCx) (ε : Sc) (n : Nat) (cf : Nat → List D → Option D) (A : Around) (env : Env) (F : Addr → Prop) (s : Shared) (ρ : List Slot) (ad : Nat → Addr) (m cm : Str → Option Value) : Prop where
  ok : CxOk cx
  sc : ScOK ε
  calls : CallOK cx n cf
  bud : BudE n A
  wd : Wd cx F s
  frm : Frm cx ε env F s ρ ad m cm
theorem HereS.here {cx ε n cf A env F s ρ ad m cm} (H : HereS cx ε n cf A env F s ρ ad m cm) : Here cx ε n cf A env F s ρ ad m cm := ⟨H.ok, H.calls, H.bud, H.wd, H.frm.en⟩
theorem HereS.step {cx ε n cf A env F s ρ ad m cm} {F' : Addr → Prop} {s' : Shared} (H : HereS cx ε n cf A env F s ρ ad m cm) (x : Step cx F s F' s') : HereS cx ε n cf A env F' s' ρ ad m cm := ⟨H.ok, H.sc, H.calls, H.bud, x.wd, H.frm.step H.wd x⟩
theorem HereS.stepS {cx ε n cf A env F s ρ ad m cm} {F' : Addr → Prop} {s' : Shared} {ρ' ad' m' cm'} (H : HereS cx ε n cf A env F s ρ ad m cm) (x : StepS cx env F s ρ ad F' s' ρ' ad') (f : Frm cx ε env F' s' ρ' ad' m' cm') : HereS cx ε n cf A env F' s' ρ' ad' m' cm' := ⟨H.ok, H.sc, H.calls, H.bud, x.wd, f⟩
inductive OutRep (cx : XCx) (F : Addr → Prop) (h : Heap) : Flow → Out → Prop
  | next : OutRep cx F h .next .next
  | brk : OutRep cx F h .brk .brk
  | cont : OutRep cx F h .cont .cont
  | ret {v : Value} {d : D} : Rep cx.T F h v d → OutRep cx F h (.ret v) (.ret d)
noncomputable def PostS (cx : XCx) (ε : Sc) (env : Env) (F : Addr → Prop) (s : Shared) (ρ : List Slot) (ad : Nat → Addr) (ρ' : List Slot) (o : Out) (Q : Flow → Shared → Prop) : Prop :=
  ∀ f F' s' ad' m' cm', StepS cx env F s ρ ad F' s' ρ' ad' → Frm cx ε env F' s' ρ' ad' m' cm' → OutRep cx F' s'.heap f o → Q f s'
theorem PostS.after {cx ε env F s ρ ad ρ' o Q} {F₁ : Addr → Prop} {s₁ : Shared} {ρ₁ ad₁} (h : PostS cx ε env F s ρ ad ρ' o Q) (x : StepS cx env F s ρ ad F₁ s₁ ρ₁ ad₁) : PostS cx ε env F₁ s₁ ρ₁ ad₁ ρ' o Q :=
  fun f F' s' ad' m' cm' y fr q => h f F' s' ad' m' cm' (x.trans y) fr q
noncomputable def SoundS (cx : XCx) (ε : Sc) (st : Stmt) (sx : S) : Prop :=
  ∀ n cf A env F s ρ ad m cm, HereS cx ε n cf A env F s ρ ad m cm → ∀ ρ' o, ex cf sx ρ = some (ρ', o) → ∀ Q E, PostS cx ε env F s ρ ad ρ' o Q → wpAny (model cx.prog cx.w) A (exec st env) Q E s
noncomputable def SoundSs (cx : XCx) (ε : Sc) (sts : List Stmt) (sx : S) : Prop :=
  ∀ n cf A env F s ρ ad m cm, HereS cx ε n cf A env F s ρ ad m cm → ∀ ρ' o, ex cf sx ρ = some (ρ', o) → ∀ Q E, PostS cx ε env F s ρ ad ρ' o Q → wpAny (model cx.prog cx.w) A (execs sts env) Q E s
theorem ex_seq {cf : Nat → List D → Option D} {a b : S} {ρ : List Slot} : ex cf (.seq a b) ρ = (match ex cf a ρ with
    | some (ρ', .next) => ex cf b ρ'
    | some (ρ', o) => some (ρ', o)
    | Option.none => Option.none) := by 
  exact exq_seq cf
theorem ex_fz {cf : Nat → List D → Option D} {i : Nat} {ρ : List Slot} : ex cf (.fz i) ρ = (match ownAt ρ i with
    | some l => some (ρ.set i (.val (.list l)), .next)
    | Option.none => some (ρ, .next)) := by 
  exact exq_fz cf
section
variable {cx : XCx} {ε : Sc}
theorem soundSs_nil : SoundSs cx ε [] .skip := by
  intro n cf A env F s ρ ad m cm H ρ' o h Q E hQ
  replace h := (exq_skip cf).symm.trans h; cases h
  exact wpAny_execs_nil (hQ .next F s ad m cm (StepS.refl H.wd) H.frm .next)
theorem soundSs_cons {st : Stmt} {sts : List Stmt} {a b : S} (h1 : SoundS cx ε st a) (h2 : SoundSs cx ε sts b) : SoundSs cx ε (st :: sts) (.seq a b) := by
  intro n cf A env F s ρ ad m cm H ρ' o h Q E hQ
  refine wpAny_execs_cons ?_
  replace h := (exq_seq cf).symm.trans h
  split at h
  · rename_i ρ₁ e1
    refine h1 n cf A env F s ρ ad m cm H ρ₁ .next e1 _ _ fun f F' s' ad' m' cm' x fr q => ?_
    cases q
    exact h2 n cf A env F' s' ρ₁ ad' m' cm' (H.stepS x fr) ρ' o h _ _ (hQ.after x)
  · rename_i ρ₁ o₁ hne e1
    cases h
    refine h1 n cf A env F s ρ ad m cm H _ _ e1 _ _ fun f F' s' ad' m' cm' x fr q => ?_
    cases q with
    | next => exact (hne rfl).elim
    | brk => exact hQ _ F' s' ad' m' cm' x fr .brk
    | cont => exact hQ _ F' s' ad' m' cm' x fr .cont
    | ret r => exact hQ _ F' s' ad' m' cm' x fr (.ret r)
  · cases h
theorem frozen {n cf A env F s ρ ad m cm} (H : HereS cx ε n cf A env F s ρ ad m cm) {i : Nat} {l : List D} (h : ownAt ρ i = some l) (hv : ∃ x, ε.vars.lookup x = some i) :
    ∃ F', StepS cx env F s ρ ad F' s (ρ.set i (.val (.list l))) ad ∧ Frm cx ε env F' s (ρ.set i (.val (.list l))) ad m cm := by
  obtain ⟨hs, hlt⟩ := ownAt_eq h
  obtain ⟨x, hx⟩ := hv
  have f := H.frm
  obtain ⟨nf, nx, ⟨vs0, n0, e0⟩, h4, h5⟩ := f.own i l hs
  have hsr : ∃ ov, SlotRep cx F s.heap ad i ov (.own l) := by
    rcases f.en.vars x i hx with ⟨_, q⟩ | ⟨_, _, q⟩ <;> rw [hs] at q <;> exact ⟨_, q⟩
  obtain ⟨ov, q⟩ := hsr
  cases q with
  | own _ _ g z q =>
  have hset : ∀ j, slotAt (ρ.set i (.val (.list l))) j = if j = i then .val (.list l) else slotAt ρ j := fun j => by rw [slotAt_set, if_pos hlt]
  have hsub : ∀ a, F a → (F a ∨ a = ad i) := fun _ h => .inl h
  have wd' : Wd cx (fun a => F a ∨ a = ad i) s := ⟨H.wd.base, H.ok.xi _ _ _ _ H.wd.xi hsub (fun _ _ _ e => e), H.wd.gens, fun a o h nx => .inl (H.wd.f0 a o h nx), fun a h => h.elim (H.wd.lt a) fun e => ⟨_, e ▸ g⟩, fun a h => h.elim (H.wd.nx a) fun e => e ▸ nx, H.wd.xex⟩
  have slots : ∀ j ov, SlotRep cx F s.heap ad j ov (slotAt ρ j) → SlotRep cx (fun a => F a ∨ a = ad i) s.heap ad j ov (slotAt (ρ.set i (.val (.list l))) j) := by
    intro j ov q'
    rw [hset]
    by_cases hj : j = i
    · subst hj
      rw [if_pos rfl]
      rw [hs] at q'
      cases q' with
      | own _ _ g z q => exact .val (.list (.inr rfl) g z (q.mono hsub fun _ _ _ e => e))
    · rw [if_neg hj]
      generalize hsl : slotAt ρ j = sl at q'
      cases q' with
      | unset => exact .unset
      | val q => exact .val (q.mono hsub fun _ _ _ e => e)
      | own nf' nx' g z q => exact .own (fun h => h.elim nf' fun e => hj (f.oinj j i _ _ hsl hs e)) nx' g z (q.mono hsub fun _ _ _ e => e)
      | app a b c => exact .app (.inl a) b c
  refine ⟨fun a => F a ∨ a = ad i, ⟨hsub, fun a h => h.imp id fun e => .inr (.inr (.inr ⟨i, l, hs, e⟩)), fun _ _ e _ _ => e, rfl, wd', fun a h => ?_⟩, ?_⟩
  · rcases h with h | h | ⟨j, l', hj, rfl⟩
    · exact .inl (.inl h)
    · exact .inl (.inr (.inl h))
    · rw [hset] at hj
      split at hj
      · cases hj
      · exact .inl (.inr (.inr ⟨j, l', hj, rfl⟩))
  · refine ⟨⟨f.en.kind, f.en.names, f.en.glob, f.en.blt, f.en.code, f.en.lx, f.en.cxx, f.en.ns, f.en.cells, fun y j hy => (f.en.vars y j hy).imp (fun ⟨k, q⟩ => ⟨k, slots j _ q⟩) fun ⟨k, c, q⟩ => ⟨k, c, slots j _ q⟩⟩,
      fun h => h.elim f.lf fun e => h4 e.symm, fun n c hc => ⟨fun h => h.elim (f.cf n c hc).1 fun e => h5 n (e ▸ hc), (f.cf n c hc).2⟩, f.cinj, fun j k l1 l2 h1 h2 e => ?_, fun j l1 h1 => ?_⟩
    · rw [hset] at h1 h2
      split at h1
      · cases h1
      · split at h2
        · cases h2
        · exact f.oinj j k _ _ h1 h2 e
    · rw [hset] at h1
      split at h1
      · cases h1
      · rename_i hj
        obtain ⟨a1, a2, a3, a4, a5⟩ := f.own j l1 h1
        exact ⟨fun h => h.elim a1 fun e => hj (f.oinj j i _ _ h1 hs e), a2, a3, a4, a5⟩
theorem soundS_fz {st : Stmt} {i : Nat} {b : S} (hv : ∃ x, ε.vars.lookup x = some i) (h : SoundS cx ε st b) : SoundS cx ε st (.seq (.fz i) b) := by
  intro n cf A env F s ρ ad m cm H ρ' o he Q E hQ
  rw [ex_seq, ex_fz] at he
  cases hown : ownAt ρ i with
  | none =>
    rw [hown] at he
    exact h n cf A env F s ρ ad m cm H ρ' o he Q E hQ
  | some l =>
    rw [hown] at he
    obtain ⟨F', x, f⟩ := frozen H hown hv
    exact h n cf A env F' s _ ad m cm (H.stepS x f) ρ' o he Q E (hQ.after x)
end
end Mine
end MpLx
section MpMx
open PySem PySem.Calls PyProof.Rows PySem.Builtin.Str
namespace Mine
section
variable {cx : XCx} {ε : Sc} {n : Nat} {cf : Nat → List D → Option D} {A : Around} {env : Env} {F F₀ : Addr → Prop} {s s₀ : Shared} {ρ : List Slot} {ad ad' : Nat → Addr} {m cm m' cm' : Str → Option Value}
theorem mutated (H : HereS cx ε n cf A env F s ρ ad m cm) {b : Addr} (hb : Mut env ρ ad b) {h' : Heap} (sb : Heap.SameBut b s.heap h') (k : Nat) :
    Wd cx F { s with heap := h', toks := k } ∧ (∀ a o, F a → s.heap.get? a = some o → h'.get? a = some o) := by
  obtain ⟨nf, nx⟩ := H.frm.notF hb
  have hk : ∀ a o, a ≠ b → s.heap.get? a = some o → h'.get? a = some o := fun a o h e => (sb.2 a h).trans e
  have fne : ∀ a, F a → a ≠ b := fun a h e => nf (e ▸ h)
  refine ⟨⟨fun a o e x => hk a o (fne a (H.wd.f0 a o e x)) (H.wd.base a o e x), H.ok.xi _ _ _ _ H.wd.xi (fun _ h => h) (fun a o h e => hk a o (h.elim (fne a) fun h e => nx (e ▸ h)) e), H.wd.gens, H.wd.f0, fun a f => let ⟨o, e⟩ := H.wd.lt a f; ⟨o, hk a o (fne a f) e⟩, H.wd.nx,
    fun a f => let ⟨o, e⟩ := H.wd.xex a f; ⟨o, hk a o (fun e => nx (e ▸ f)) e⟩⟩, fun a o f e => hk a o (fne a f) e⟩
theorem put_steps (H₀ : HereS cx ε n cf A env F₀ s₀ ρ ad m cm) (x : Step cx F₀ s₀ F s) {b : Addr} (hb : Mut env ρ ad b) {h' : Heap} (sb : Heap.SameBut b s.heap h') (k : Nat) {i : Nat} {sl : Slot}
    (hmu : ∀ l, sl = .own l → Mut env ρ ad (ad' i) ∨ s₀.heap.get? (ad' i) = none) (had : ∀ j, j ≠ i → ad' j = ad j) : StepS cx env F₀ s₀ ρ ad F { s with heap := h', toks := k } (ρ.set i sl) ad' := by
  refine ⟨x.sub, fun a h => (x.new a h).imp id .inl, fun a o e nx nm => ?_, x.os, (mutated (H₀.step x) hb sb k).1, fun a h => ?_⟩
  · exact (sb.2 a fun e => nm (e ▸ hb)).trans (x.keep a o e nx)
  · rcases h with h | h | ⟨j, l, hj, rfl⟩
    · exact .inl (.inl h)
    · exact .inl (.inr (.inl h))
    · rw [slotAt_set] at hj
      by_cases e : j = i
      · subst e
        rw [if_pos rfl] at hj
        split at hj
        · exact hmu l hj
        · cases hj
      · rw [if_neg e] at hj
        rw [had j e]
        exact .inl (.inr (.inr ⟨j, l, hj, rfl⟩))
set_option genInjectivity false in
structure NewOwn (cx : XCx) (env : Env) (F : Addr → Prop) (h' : Heap) (ρ : List Slot) (ad ad' : Nat → Addr) (i : Nat) : Prop where
  nf : ¬ F (ad' i)
  nx : ¬ cx.X (ad' i)
  is : ∃ vs n, h'.get? (ad' i) = some (lobj vs n)
  nl : ad' i ≠ env.locals
  nc : ∀ n, env.cells.lookup n ≠ some (ad' i)
  oth : ∀ j l, j ≠ i → slotAt ρ j = .own l → ad j ≠ ad' i
theorem Frm.put (H : HereS cx ε n cf A env F s ρ ad m cm) {b : Addr} (hb : Mut env ρ ad b) {h' : Heap} (sb : Heap.SameBut b s.heap h') (k : Nat) {i : Nat} {sl : Slot}
    (hns : h'.Ns env.locals m') (hcells : ∀ n c, env.cells.lookup n = some c → h'.IsCell c (cm' n))
    (hvars : ∀ x j, ε.vars.lookup x = some j → j ≠ i → m' x = m x ∧ cm' x = cm x)
    (hnew : ∀ x, ε.vars.lookup x = some i → (ε.kinds.lookup x = some .local → SlotRep cx F h' ad' i (m' x) sl) ∧ (ε.kinds.lookup x ≠ some .local → SlotRep cx F h' ad' i (cm' x) sl))
    (had : ∀ j, j ≠ i → ad' j = ad j) (happ : ad' i = ad i ∨ ∀ j, slotAt ρ j ≠ .app i)
    (hbo : ∀ j l, slotAt ρ j = .own l → j ≠ i → ad j ≠ b) (hown : ∀ l, sl = .own l → NewOwn cx env F h' ρ ad ad' i) :
    Frm cx ε env F { s with heap := h', toks := k } (ρ.set i sl) ad' m' cm' := by
  have f := H.frm
  obtain ⟨w', keep⟩ := mutated H hb sb k
  have keepB : ∀ a o, a ≠ b → s.heap.get? a = some o → h'.get? a = some o := fun a o h e => (sb.2 a h).trans e
  have old : ∀ j ov, j ≠ i → SlotRep cx F s.heap ad j ov (slotAt ρ j) → SlotRep cx F h' ad' j ov (slotAt ρ j) := by
    intro j ov hj q
    have hbo := fun l e => hbo j l e hj
    have happ := happ.imp id fun h => h j
    generalize slotAt ρ j = x at q hbo happ
    cases q with
    | unset => exact .unset
    | val q => exact .val (q.mono (fun _ h => h) keep)
    | own nf nx g z q =>
      rw [← had j hj] at nf nx g ⊢
      exact .own nf nx (keepB _ _ (by rw [had j hj]; exact hbo _ rfl) g) z (q.mono (fun _ h => h) keep)
    | @app b' o k fb g e =>
      refine .app fb (keep _ _ fb g) ?_
      by_cases hk : k = i
      · subst hk
        rcases happ with h | h
        · rw [h]; exact e
        · exact absurd rfl h
      · rw [had k hk]; exact e
  have slots : ∀ x j, ε.vars.lookup x = some j →
    (ε.kinds.lookup x = some .local ∧ SlotRep cx F h' ad' j (m' x) (slotAt (ρ.set i sl) j)) ∨
    ((ε.kinds.lookup x = some .cell ∨ ε.kinds.lookup x = some .free) ∧ (∃ c, env.cells.lookup x = some c) ∧ SlotRep cx F h' ad' j (cm' x) (slotAt (ρ.set i sl) j)) := by
    intro x j hx
    rw [slotAt_set]
    by_cases e : j = i
    · subst e
      rw [if_pos rfl]
      have nl : ∀ {k : NameKind}, ε.kinds.lookup x = some k → k ≠ .local → ε.kinds.lookup x ≠ some .local := fun h hk e => hk (by rw [h] at e; exact Option.some.inj e)
      rcases f.en.vars x j hx with ⟨k, q⟩ | ⟨k, c, q⟩
      · left
        refine ⟨k, ?_⟩
        split
        · exact (hnew x hx).1 k
        · exact .unset
      · right
        refine ⟨k, c, ?_⟩
        split
        · refine (hnew x hx).2 fun e => ?_
          rw [e] at k; rcases k with k | k <;> cases k
        · exact .unset
    · rw [if_neg e]
      obtain ⟨e1, e2⟩ := hvars x j hx e
      rw [e1, e2]
      exact (f.en.vars x j hx).imp (fun ⟨k, q⟩ => ⟨k, old j _ e q⟩) fun ⟨k, c, q⟩ => ⟨k, c, old j _ e q⟩
  refine ⟨⟨f.en.kind, f.en.names, f.en.glob, f.en.blt, f.en.code, f.en.lx, f.en.cxx, hns, hcells, slots⟩, f.lf, f.cf, f.cinj, fun p q l1 l2 h1 h2 e => ?_, fun j l hj => ?_⟩
  · rw [slotAt_set] at h1 h2
    by_cases hp : p = i
    · by_cases hq : q = i
      · rw [hp, hq]
      · subst hp
        rw [if_pos rfl] at h1
        rw [if_neg hq] at h2
        split at h1
        · have := (hown l1 h1).oth q l2 hq h2
          rw [had q hq] at e
          exact absurd e.symm this
        · cases h1
    · by_cases hq : q = i
      · subst hq
        rw [if_neg hp] at h1
        rw [if_pos rfl] at h2
        split at h2
        · have := (hown l2 h2).oth p l1 hp h1
          rw [had p hp] at e
          exact absurd e this
        · cases h2
      · rw [if_neg hp] at h1
        rw [if_neg hq] at h2
        rw [had p hp, had q hq] at e
        exact f.oinj p q l1 l2 h1 h2 e
  · rw [slotAt_set] at hj
    by_cases e : j = i
    · subst e
      rw [if_pos rfl] at hj
      split at hj
      · have q := hown l hj
        exact ⟨q.nf, q.nx, q.is, q.nl, q.nc⟩
      · cases hj
    · rw [if_neg e] at hj
      rw [had j e]
      obtain ⟨a1, a2, ⟨vs, n, g⟩, a4, a5⟩ := f.own j l hj
      exact ⟨a1, a2, ⟨vs, n, keepB _ _ (hbo j l hj e) g⟩, a4, a5⟩
theorem store_varK (H₀ : HereS cx ε n cf A env F₀ s₀ ρ ad m cm) (st : Step cx F₀ s₀ F s) {x : Str} {i : Nat} (hx : ε.vars.lookup x = some i) (hfree : ε.kinds.lookup x ≠ some .free) {v : Value} {sl : Slot}
    (had : ∀ j, j ≠ i → ad' j = ad j) (happ : ad' i = ad i ∨ ∀ j, slotAt ρ j ≠ .app i)
    (hv : ∀ h', (∀ a o, F a ∨ ¬ Mut env ρ ad a → s.heap.get? a = some o → h'.get? a = some o) → SlotRep cx F h' ad' i (some v) sl)
    (hmu : ∀ l, sl = .own l → s₀.heap.get? (ad' i) = none ∧ ¬ F (ad' i) ∧ ¬ cx.X (ad' i) ∧ ∃ vs n, s.heap.get? (ad' i) = some (lobj vs n))
    {Q : Unit → Shared → Prop} {E : Value → Shared → Prop}
    (hQ : ∀ s' m' cm', (∀ a o, ¬ Mut env ρ ad a → s.heap.get? a = some o → s'.heap.get? a = some o) → StepS cx env F₀ s₀ ρ ad F s' (ρ.set i sl) ad' → Frm cx ε env F s' (ρ.set i sl) ad' m' cm' → Q () s') :
    wpAny (model cx.prog cx.w) A (storeName env x v) Q E s := by
  have H := H₀.step st
  have f := H.frm
  have notMut : ∀ l, sl = .own l → ¬ Mut env ρ ad (ad' i) := fun l hl hm => by
    obtain ⟨o, e⟩ := H₀.frm.isSome hm
    rw [(hmu l hl).1] at e; cases e
  have mkOwn : ∀ h', (∀ a o, ¬ Mut env ρ ad a → s.heap.get? a = some o → h'.get? a = some o) → ∀ l, sl = .own l → NewOwn cx env F h' ρ ad ad' i := by
    intro h' hk l hl
    obtain ⟨a1, a2, a3, vs, n, a4⟩ := hmu l hl
    have nm := notMut l hl
    exact ⟨a2, a3, ⟨vs, n, hk _ _ nm a4⟩, fun e => nm (.inl e), fun n e => nm (.inr (.inl ⟨n, e⟩)), fun j l' hj hs e => nm (.inr (.inr ⟨j, l', hs, e.symm⟩))⟩
  have others : ∀ y j, ε.vars.lookup y = some j → j ≠ i → y ≠ x := fun y j hy hj e => hj (by subst e; rw [hx] at hy; exact (Option.some.inj hy).symm)
  have same : ∀ y, ε.vars.lookup y = some i → y = x := fun y hy => H.sc.inj y x i hy hx
  rcases f.en.vars x i hx with ⟨hk, _⟩ | ⟨hk, ⟨c, hc⟩, _⟩
  · have hl : env.kindOf x = some .local := by unfold Env.kindOf; rw [f.en.names]; exact hk
    have hp : (env.scope.kind == .class || (env.scope.kind == .module && env.locals != env.globals)) = false := by rw [f.en.kind]; rfl
    refine wpAny_storeName_local hl f.en.ns (fun h' hn sb => ?_) hp
    have hb : Mut env ρ ad env.locals := .inl rfl
    have hk1 : ∀ a o, ¬ Mut env ρ ad a → s.heap.get? a = some o → h'.get? a = some o := fun a o nm e => (sb.2 a fun e => nm (e ▸ hb)).trans e
    have hk2 : ∀ a o, F a ∨ ¬ Mut env ρ ad a → s.heap.get? a = some o → h'.get? a = some o := fun a o nm e => nm.elim (fun h => (sb.2 a fun e => f.lf (e ▸ h)).trans e) fun h => hk1 a o h e
    refine hQ _ (fun y => if y = x then some v else m y) cm hk1 (put_steps H₀ st hb sb _ (fun l hl => .inr (hmu l hl).1) had) ?_
    refine Frm.put H hb sb _ hn (fun n c hc => ?_) (fun y j hy hj => ⟨if_neg (others y j hy hj), rfl⟩) (fun y hy => ?_) had happ (fun j l hs _ => (f.own j l hs).2.2.2.1) (mkOwn h' hk1)
    · obtain ⟨o, g, d⟩ := f.en.cells n c hc
      exact ⟨o, (sb.2 c (f.cf n c hc).2).trans g, d⟩
    · have ey := same y hy
      refine ⟨fun _ => ?_, fun h => absurd (ey ▸ hk) h⟩
      show SlotRep cx F h' ad' i (if y = x then some v else m y) sl
      rw [if_pos ey]
      exact hv h' hk2
  · have hl : env.kindOf x = some .cell := by
      unfold Env.kindOf; rw [f.en.names]
      exact hk.resolve_right hfree
    refine wpAny_storeName_cell f.en.kind hl hc (f.en.cells x c hc) (fun h' hn sb => ?_)
    have hb : Mut env ρ ad c := .inr (.inl ⟨x, hc⟩)
    have hk1 : ∀ a o, ¬ Mut env ρ ad a → s.heap.get? a = some o → h'.get? a = some o := fun a o nm e => (sb.2 a fun e => nm (e ▸ hb)).trans e
    have hk2 : ∀ a o, F a ∨ ¬ Mut env ρ ad a → s.heap.get? a = some o → h'.get? a = some o := fun a o nm e => nm.elim (fun h => (sb.2 a fun e => (f.cf x c hc).1 (e ▸ h)).trans e) fun h => hk1 a o h e
    refine hQ _ m (fun y => if y = x then some v else cm y) hk1 (put_steps H₀ st hb sb s.toks (fun l hl => .inr (hmu l hl).1) had) ?_
    refine Frm.put H hb sb _ (f.en.ns.sameBut sb (Ne.symm (f.cf x c hc).2)) (fun n c' hc' => ?_) (fun y j hy hj => ⟨rfl, if_neg (others y j hy hj)⟩) (fun y hy => ?_) had happ (fun j l hs _ e => (f.own j l hs).2.2.2.2 x (e ▸ hc)) (mkOwn h' hk1)
    · by_cases e : n = x
      · subst e
        rw [hc] at hc'; cases hc'
        rw [if_pos rfl]
        exact hn
      · rw [if_neg e]
        obtain ⟨o, g, d⟩ := f.en.cells n c' hc'
        exact ⟨o, (sb.2 c' fun e' => e (f.cinj n x c (e' ▸ hc') hc)).trans g, d⟩
    · have ey := same y hy
      refine ⟨fun h => ?_, fun _ => ?_⟩
      · rw [ey] at h; rw [h] at hk; rcases hk with hk | hk <;> cases hk
      · show SlotRep cx F h' ad' i (if y = x then some v else cm y) sl
        rw [if_pos ey]
        exact hv h' hk2
theorem store_var (H₀ : HereS cx ε n cf A env F₀ s₀ ρ ad m cm) (st : Step cx F₀ s₀ F s) {x : Str} {i : Nat} (hx : ε.vars.lookup x = some i) (hfree : ε.kinds.lookup x ≠ some .free) {v : Value} {sl : Slot}
    (had : ∀ j, j ≠ i → ad' j = ad j) (happ : ad' i = ad i ∨ ∀ j, slotAt ρ j ≠ .app i)
    (hv : ∀ h', (∀ a o, F a ∨ ¬ Mut env ρ ad a → s.heap.get? a = some o → h'.get? a = some o) → SlotRep cx F h' ad' i (some v) sl)
    (hmu : ∀ l, sl = .own l → s₀.heap.get? (ad' i) = none ∧ ¬ F (ad' i) ∧ ¬ cx.X (ad' i) ∧ ∃ vs n, s.heap.get? (ad' i) = some (lobj vs n))
    {Q : Unit → Shared → Prop} {E : Value → Shared → Prop}
    (hQ : ∀ s' m' cm', StepS cx env F₀ s₀ ρ ad F s' (ρ.set i sl) ad' → Frm cx ε env F s' (ρ.set i sl) ad' m' cm' → Q () s') :
    wpAny (model cx.prog cx.w) A (storeName env x v) Q E s := store_varK H₀ st hx hfree had happ hv hmu fun s' m' cm' _ => hQ s' m' cm'
end
end Mine
end MpMx
section MpNx
open PySem PySem.Calls PyProof.Rows PySem.Builtin.Str
namespace Mine
section
variable {cx : XCx} {ε : Sc} {n : Nat} {cf : Nat → List D → Option D} {A : Around} {env : Env} {F F₀ F' : Addr → Prop} {s s₀ s' : Shared} {ρ ρ' : List Slot} {ad ad' : Nat → Addr} {m cm m' cm' : Str → Option Value}
theorem StepS.rep (x : StepS cx env F s ρ ad F' s' ρ' ad') (H : HereS cx ε n cf A env F s ρ ad m cm) {v : Value} {d : D} (r : Rep cx.T F s.heap v d) : Rep cx.T F' s'.heap v d :=
  r.mono x.sub fun a o f e => x.keep a o e (H.wd.nx a f) fun hm => (H.frm.notF hm).1 f
theorem StepS.repL (x : StepS cx env F s ρ ad F' s' ρ' ad') (H : HereS cx ε n cf A env F s ρ ad m cm) {v : List Value} {d : List D} (r : RepL cx.T F s.heap v d) : RepL cx.T F' s'.heap v d :=
  r.mono x.sub fun a o f e => x.keep a o e (H.wd.nx a f) fun hm => (H.frm.notF hm).1 f
theorem store_val (H₀ : HereS cx ε n cf A env F₀ s₀ ρ ad m cm) (st : Step cx F₀ s₀ F s) {x : Str} {i : Nat} (hx : ε.vars.lookup x = some i) (hfree : ε.kinds.lookup x ≠ some .free) {v : Value} {d : D} (hv : Rep cx.T F s.heap v d)
    {Q : Unit → Shared → Prop} {E : Value → Shared → Prop}
    (hQ : ∀ s' m' cm', StepS cx env F₀ s₀ ρ ad F s' (ρ.set i (.val d)) ad → Frm cx ε env F s' (ρ.set i (.val d)) ad m' cm' → Q () s') :
    wpAny (model cx.prog cx.w) A (storeName env x v) Q E s :=
  store_var H₀ st hx hfree (sl := .val d) (ad' := ad) (fun _ _ => rfl) (.inl rfl) (fun h' hk => .val (hv.mono (fun _ h => h) fun a o f e => hk a o (.inl f) e)) (fun _ e => nomatch e) hQ
theorem ev1_inv {x : X} {d : D} (h : ev1 cf x ρ = some d) : ∃ r, ev cf x ρ = some [r] ∧ r.fz = some d := by
  unfold ev1 at h
  split at h
  · rename_i r e; exact ⟨r, e, h⟩
  · cases h
theorem eval_fz (H : HereS cx ε n cf A env F s ρ ad m cm) {e : Expr} {x : X} (h : Sound cx ε e x) {d : D} (hd : ev1 cf x ρ = some d) {Q : Value → Shared → Prop} {E : Value → Shared → Prop}
    (hQ : ∀ v F' s', Step cx F s F' s' → Rep cx.T F' s'.heap v d → Q v s') : wpAny (model cx.prog cx.w) A (eval e env) Q E s := by
  obtain ⟨r, e1, e2⟩ := ev1_inv hd
  refine h.ev n cf A env F s ρ ad m cm H.here r e1 _ _ fun v F' s' st q => ?_
  obtain ⟨F'', st', _, q'⟩ := st.fz H.ok H.wd q e2
  exact hQ v F'' s' st' q'
end
section
variable {cx : XCx} {ε : Sc}
theorem soundS_continue {pos : Pos} : SoundS cx ε (.Continue pos) .cont := by
  intro n cf A env F s ρ ad m cm H ρ' o h Q E hQ
  replace h := (exq_cont cf).symm.trans h; cases h
  exact wpAny_Continue (hQ .cont F s ad m cm (StepS.refl H.wd) H.frm .cont)
theorem soundS_ret {e : Expr} {x : X} {pos : Pos} (hx : Sound cx ε e x) : SoundS cx ε (.Return (some e) pos) (.ret x) := by
  intro n cf A env F s ρ ad m cm H ρ' o h Q E hQ
  replace h := (exq_ret cf).symm.trans h
  obtain ⟨d, hd, e'⟩ := Option.map_eq_some_iff.mp h
  cases e'
  refine wpAny_Return_some (eval_fz H hx hd fun v F' s' st q => ?_)
  exact hQ _ F' s' ad m cm (.ofStep st) (H.step st).frm (.ret q)
theorem soundS_if {c : Expr} {x : X} {bs es : List Stmt} {a b : S} {pos : Pos} (hx : Sound cx ε c x) (ha : SoundSs cx ε bs a) (hb : SoundSs cx ε es b) : SoundS cx ε (.If c bs es pos) (.ite x a b) := by
  intro n cf A env F s ρ ad m cm H ρ' o h Q E hQ
  replace h := (exq_ite cf).symm.trans h
  split at h
  · rename_i e
    refine wpAny_If (hx.tr n cf A env F s ρ ad m cm H.here true e _ _ fun F' s' st => ?_)
    show wpAny _ _ _ _ _ _
    exact ha n cf A env F' s' ρ ad m cm (H.step st) ρ' o h _ _ (hQ.after (.ofStep st))
  · rename_i e
    refine wpAny_If (hx.tr n cf A env F s ρ ad m cm H.here false e _ _ fun F' s' st => ?_)
    show wpAny _ _ _ _ _ _
    exact hb n cf A env F' s' ρ ad m cm (H.step st) ρ' o h _ _ (hQ.after (.ofStep st))
  · cases h
theorem soundS_assert {c : Expr} {x : X} {msg : Option Expr} {pos : Pos} (hx : Sound cx ε c x) : SoundS cx ε (.Assert c msg pos) (.assert x) := by
  intro n cf A env F s ρ ad m cm H ρ' o h Q E hQ
  replace h := (exq_assert cf).symm.trans h
  split at h
  · rename_i e
    cases h
    refine wpAny_Assert_holds (hx.tr n cf A env F s ρ ad m cm H.here true e _ _ fun F' s' st => ?_)
    exact ⟨rfl, hQ .next F' s' ad m cm (.ofStep st) (H.step st).frm .next⟩
  · cases h
theorem soundS_assign {x : Str} {i : Nat} {e : Expr} {y : X} {pos' pos : Pos} (hx : ε.vars.lookup x = some i) (hf : ε.kinds.lookup x ≠ some .free) (h : Sound cx ε e y) (hs : ∀ env : Env, env.scope.kind = .function → env.scope.names = ε.kinds → swapsWith e (some (.Name x pos')) pos.line env = pure false) :
    SoundS cx ε (.Assign [.Name x pos'] e pos) (.assign i y) := by
  intro n cf A env F s ρ ad m cm H ρ' o he Q E hQ
  replace he := (exq_assign cf).symm.trans he
  obtain ⟨d, hd, e'⟩ := Option.map_eq_some_iff.mp he
  cases e'
  refine wpAny_Assign_Name (eval_fz H h hd fun v F' s' st q => ?_) (hs env H.frm.en.kind H.frm.en.names)
  exact store_val H st hx hf q fun s'' m' cm' x f => hQ .next F' s'' ad m' cm' x f .next
theorem noApp_ok {i : Nat} {ρ : List Slot} (h : noApp i ρ = true) : ∀ j, slotAt ρ j ≠ .app i := by
  intro j e
  unfold noApp at h
  rw [List.all_eq_true] at h
  unfold slotAt at e
  rw [List.getD_eq_getElem?_getD] at e
  cases hj : ρ[j]? with
  | none => rw [hj] at e; cases e
  | some sl =>
    rw [hj] at e
    have := h sl (List.mem_of_getElem? hj)
    have e' : sl = .app i := e
    subst e'
    simp at this
theorem soundS_assignO {x : Str} {i : Nat} {e : Expr} {y : X} {pos' pos : Pos} (hx : ε.vars.lookup x = some i) (hf : ε.kinds.lookup x ≠ some .free) (h : Sound cx ε e y) (hs : ∀ env : Env, env.scope.kind = .function → env.scope.names = ε.kinds → swapsWith e (some (.Name x pos')) pos.line env = pure false) :
    SoundS cx ε (.Assign [.Name x pos'] e pos) (.assignO i y) := by
  intro n cf A env F s ρ ad m cm H ρ' o he Q E hQ
  replace he := (exq_assignO cf).symm.trans he
  split at he
  · rename_i hna
    split at he
    · rename_i l e1
      cases he
      refine wpAny_Assign_Name (h.ev n cf A env F s ρ ad m cm H.here _ e1 _ _ fun v F' s' st q => ?_) (hs env H.frm.en.kind H.frm.en.names)
      cases q with
      | @own a vs k l lo nf nx g z q =>
        refine store_var H st hx hf (sl := .own l) (ad' := fun j => if j = i then a else ad j) (fun j hj => if_neg hj) (.inr (noApp_ok hna)) (fun h' hk => ?_) (fun l' _ => ?_) fun s'' m' cm' x f => hQ .next F' s'' _ m' cm' x f .next
        · have nm : ¬ Mut env ρ ad a := fun hm => by
            obtain ⟨o, e⟩ := H.frm.isSome hm
            rw [lo] at e; cases e
          have : SlotRep cx F' h' (fun j => if j = i then a else ad j) i (some (.ref ((fun j => if j = i then a else ad j) i))) (.own l) := by
            refine .own (vs := vs) (n := k) ?_ ?_ ?_ z (q.mono (fun _ h => h) fun b o f e => hk b o (.inl f) e) <;> simp only [if_true]
            · exact nf
            · exact nx
            · exact hk a _ (.inr nm) g
          simpa using this
        · simp only [if_true]
          exact ⟨lo, nf, nx, _, _, g⟩
    · rename_i d e1
      cases he
      refine wpAny_Assign_Name (h.ev n cf A env F s ρ ad m cm H.here _ e1 _ _ fun v F' s' st q => ?_) (hs env H.frm.en.kind H.frm.en.names)
      cases q with
      | val q => exact store_val H st hx hf q fun s'' m' cm' x f => hQ .next F' s'' ad m' cm' x f .next
    · cases he
  · cases he
end
end Mine
end MpNx
section MpOx
open PySem PySem.Calls PyProof.Rows PySem.Builtin.Str
namespace Mine
set_option genInjectivity false in
structure Iter (cx : XCx) (A : Around) (F₀ : Addr → Prop) (s₀ : Shared) (items : List D) (I : Addr) (F : Addr → Prop) (s : Shared) (fp wr : List Addr) (P : Nat → Value → Prop) (St : Nat → Heap → Prop) : Prop where
  st : Step cx F₀ s₀ F s
  W : ∀ A' : Around, A'.handled = none → Walks cx.prog cx.w A' I fp wr items.length P St
  s0 : St 0 s.heap
  new : ∀ b ∈ wr, s₀.heap.get? b = none ∧ ¬ F b
  one : ∀ b ∈ wr, b = I
  deps : ∀ b ∈ fp, b ∈ wr ∨ F b
  item : ∀ i v, P i v → ∃ d, items[i]? = some d ∧ Rep cx.T F s.heap v d
  ty : ∀ i h, St i h → ∃ o T, h.get? I = some o ∧ o.cls = .type T ∧ ["enumerate", "zip", "dict_itemiterator", "dict_reverseitemiterator", "odict_iterator", "itertools.zip_longest", "itertools.pairwise"].contains T = false
  lim : items.length ≤ lim
noncomputable def SoundI (cx : XCx) (ε : Sc) (it : Expr) (x : X) : Prop :=
  ∀ n cf A env F s ρ ad m cm, Here cx ε n cf A env F s ρ ad m cm → ∀ items, evI cf x ρ = some items → ∀ (Q : Value → Shared → Prop) (E : Value → Shared → Prop),
    (∀ I F' s' fp wr P St, Iter cx A F s items I F' s' fp wr P St → Q (.ref I) s') →
    wpAny (model cx.prog cx.w) A (eval it env) (fun v s₁ => wpAny (model cx.prog cx.w) A (pyIter v) Q E s₁) E s
noncomputable def SoundA (cx : XCx) (ε : Sc) (target : Expr) (put : D → List Slot → Option (List Slot)) : Prop :=
  ∀ n cf A env F s ρ ad m cm, HereS cx ε n cf A env F s ρ ad m cm → ∀ v d ρ', Rep cx.T F s.heap v d → put d ρ = some ρ' → ∀ (Q : Unit → Shared → Prop) (E : Value → Shared → Prop),
    (∀ F' s' m' cm', StepS cx env F s ρ ad F' s' ρ' ad → Frm cx ε env F' s' ρ' ad m' cm' → Q () s') → wpAny (model cx.prog cx.w) A (assign target env v) Q E s
section
variable {cx : XCx} {ε : Sc} {n : Nat} {cf : Nat → List D → Option D} {A : Around} {env : Env} {F F₀ F' : Addr → Prop} {s s₀ s' : Shared} {ρ ρ' : List Slot} {ad ad' : Nat → Addr} {m cm m' cm' : Str → Option Value}
theorem Frm.kept (f : Frm cx ε env F s ρ ad m cm) {h' : Heap} (k : Nat) (hk : ∀ a o, F a ∨ Mut env ρ ad a → s.heap.get? a = some o → h'.get? a = some o) :
    Frm cx ε env F { s with heap := h', toks := k } ρ ad m cm := by
  have hl : Mut env ρ ad env.locals := .inl rfl
  have slots : ∀ j ov, SlotRep cx F s.heap ad j ov (slotAt ρ j) → SlotRep cx F h' ad j ov (slotAt ρ j) := by
    intro j ov q
    have hm : ∀ l, slotAt ρ j = .own l → Mut env ρ ad (ad j) := fun l e => .inr (.inr ⟨j, l, e, rfl⟩)
    generalize slotAt ρ j = x at q hm
    cases q with
    | unset => exact .unset
    | val q => exact .val (q.mono (fun _ h => h) fun a o f e => hk a o (.inl f) e)
    | own nf nx g z q => exact .own nf nx (hk _ _ (.inr (hm _ rfl)) g) z (q.mono (fun _ h => h) fun a o f e => hk a o (.inl f) e)
    | app fb g e => exact .app fb (hk _ _ (.inl fb) g) e
  refine ⟨⟨f.en.kind, f.en.names, f.en.glob, f.en.blt, f.en.code, f.en.lx, f.en.cxx, f.en.ns.at' fun o e => hk _ o (.inr hl) e, fun n c hc => let ⟨o, g, d⟩ := f.en.cells n c hc; ⟨o, hk _ o (.inr (.inr (.inl ⟨n, hc⟩))) g, d⟩,
    fun y i hy => (f.en.vars y i hy).imp (fun ⟨k, q⟩ => ⟨k, slots i _ q⟩) fun ⟨k, c, q⟩ => ⟨k, c, slots i _ q⟩⟩, f.lf, f.cf, f.cinj, f.oinj, fun i l hi => ?_⟩
  obtain ⟨a1, a2, ⟨vs, n, g⟩, a4, a5⟩ := f.own i l hi
  exact ⟨a1, a2, ⟨vs, n, hk _ _ (.inr (.inr (.inr ⟨i, l, hi, rfl⟩))) g⟩, a4, a5⟩
theorem StepS.kept (ok : CxOk cx) (w₀ : Wd cx F₀ s₀) (x : StepS cx env F₀ s₀ ρ ad F s ρ' ad') (f : Frm cx ε env F s ρ' ad' m cm) {wr : List Addr} (hw : ∀ b ∈ wr, s₀.heap.get? b = none ∧ ¬ F b ∧ ¬ Mut env ρ' ad' b) {h' : Heap} (k : Nat)
    (hk : ∀ a o, a ∉ wr → s.heap.get? a = some o → h'.get? a = some o) : StepS cx env F₀ s₀ ρ ad F { s with heap := h', toks := k } ρ' ad' ∧ Frm cx ε env F { s with heap := h', toks := k } ρ' ad' m cm := by
  have nf : ∀ a, F a → a ∉ wr := fun a h hm => (hw a hm).2.1 h
  have nm : ∀ a, Mut env ρ' ad' a → a ∉ wr := fun a h hm => (hw a hm).2.2 h
  have nx : ∀ a, cx.X a → a ∉ wr := fun a h hm => by
    obtain ⟨o, e⟩ := w₀.xex a h
    rw [(hw a hm).1] at e; cases e
  have w := x.wd
  refine ⟨⟨x.sub, x.new, fun a o e ax am => ?_, x.os, ⟨fun a o e ax => hk a o (nf a (w.f0 a o e ax)) (w.base a o e ax), ok.xi _ _ _ _ w.xi (fun _ h => h) (fun a o h e => hk a o (h.elim (nf a) (nx a)) e), w.gens, w.f0, fun a h => let ⟨o, e⟩ := w.lt a h; ⟨o, hk a o (nf a h) e⟩, w.nx, fun a h => let ⟨o, e⟩ := w.xex a h; ⟨o, hk a o (nx a h) e⟩⟩, x.mu⟩, f.kept k fun a o h e => hk a o (h.elim (nf a) (nm a)) e⟩
  refine hk a o (fun hm => ?_) (x.keep a o e ax am)
  rw [(hw a hm).1] at e; cases e
end
section
variable {cx : XCx} {ε : Sc}
theorem soundA_name {x : Str} {i : Nat} {p : Pos} (hx : ε.vars.lookup x = some i) (hf : ε.kinds.lookup x ≠ some .free) : SoundA cx ε (.Name x p) (put1 i) := by
  intro n cf A env F s ρ ad m cm H v d ρ' hv hp Q E hQ
  cases hp
  exact wpAny_assign_Name (store_val H (Step.refl H.wd) hx hf hv fun s' m' cm' x f => hQ F s' m' cm' x f)
inductive WhI (cx : XCx) (ε : Sc) (env : Env) (F : Addr → Prop) (s : Shared) (ρ : List Slot) (ad : Nat → Addr) (go : Nat → List Slot → Option (List Slot × Out)) (res : Option (List Slot × Out)) (k : Nat) (s' : Shared) : Prop
  | mk (F' : Addr → Prop) (ρ₁ : List Slot) (ad₁ : Nat → Addr) (m₁ cm₁ : Str → Option Value) (x1 : StepS cx env F s ρ ad F' s' ρ₁ ad₁) (f1 : Frm cx ε env F' s' ρ₁ ad₁ m₁ cm₁) (hg : go k ρ₁ = res)
theorem soundS_while {c : Expr} {x : X} {bs : List Stmt} {b : S} {pos : Pos} (hx : Sound cx ε c x) (hb : SoundSs cx ε bs b) : SoundS cx ε (.While c bs [] pos) (.while x b) := by
  intro n cf A env F s ρ ad m cm H ρ' o h Q E hQ
  replace h := (exq_while cf).symm.trans h
  refine wpAny_While ?_
  refine codeAny_whileLoop (WhI cx ε env F s ρ ad (whileGo (evT cf x) (ex cf b)) (some (ρ', o))) (fun k s' hI => ?_) Mine.wf
    ⟨F, ρ, ad, m, cm, StepS.refl H.wd, H.frm, h⟩
  obtain ⟨F', ρ₁, ad₁, m₁, cm₁, x1, f1, hg⟩ := hI
  have H1 := H.stepS x1 f1
  cases k with
  | zero => cases hg
  | succ k =>
    unfold whileGo at hg
    split at hg
    · cases hg
    · rename_i e
      cases hg
      refine hx.tr n cf A env F' s' _ ad₁ m₁ cm₁ H1.here false e _ _ fun F2 s2 st => ?_
      show wpAny _ _ _ _ _ _
      exact wpAny_execs_nil (hQ .next F2 s2 ad₁ m₁ cm₁ (x1.trans (.ofStep st)) (H1.step st).frm .next)
    · rename_i e
      refine hx.tr n cf A env F' s' ρ₁ ad₁ m₁ cm₁ H1.here true e _ _ fun F2 s2 st => ?_
      show wpAny _ _ _ _ _ _
      have H2 := H1.step st
      split at hg
      · cases hg
      · rename_i ρ₂ e2
        refine hb n cf A env F2 s2 ρ₁ ad₁ m₁ cm₁ H2 ρ₂ .next e2 _ _ fun f F3 s3 ad3 m3 cm3 x3 f3 q => ?_
        cases q
        exact ⟨k, Nat.lt_succ_self k, F3, ρ₂, ad3, m3, cm3, (x1.trans (.ofStep st)).trans x3, f3, hg⟩
      · rename_i ρ₂ e2
        refine hb n cf A env F2 s2 ρ₁ ad₁ m₁ cm₁ H2 ρ₂ .cont e2 _ _ fun f F3 s3 ad3 m3 cm3 x3 f3 q => ?_
        cases q
        exact ⟨k, Nat.lt_succ_self k, F3, ρ₂, ad3, m3, cm3, (x1.trans (.ofStep st)).trans x3, f3, hg⟩
      · rename_i ρ₂ e2
        cases hg
        refine hb n cf A env F2 s2 ρ₁ ad₁ m₁ cm₁ H2 _ .brk e2 _ _ fun f F3 s3 ad3 m3 cm3 x3 f3 q => ?_
        cases q
        exact hQ .next F3 s3 ad3 m3 cm3 ((x1.trans (.ofStep st)).trans x3) f3 .next
      · rename_i ρ₂ d e2
        cases hg
        refine hb n cf A env F2 s2 ρ₁ ad₁ m₁ cm₁ H2 _ (.ret d) e2 _ _ fun f F3 s3 ad3 m3 cm3 x3 f3 q => ?_
        cases q with
        | ret r => exact hQ _ F3 s3 ad3 m3 cm3 ((x1.trans (.ofStep st)).trans x3) f3 (.ret r)
theorem letGo_ok {A : Around} {s : Shared} {E : Value → Shared → Prop} {target : Expr} {I : Addr} {v : Value} {Q : Unit → Shared → Prop} {o : Obj} {T : String} (hg : s.heap.get? I = some o) (hc : o.cls = .type T)
    (hT : ["enumerate", "zip", "dict_itemiterator", "dict_reverseitemiterator", "odict_iterator", "itertools.zip_longest", "itertools.pairwise"].contains T = false) (h : Q () s) :
    wpAny (model cx.prog cx.w) A (letOwnedTupleGo target (.ref I) v) Q E s := by
  have key : ∀ es k p, wpAny (model cx.prog cx.w) A (letOwnedTupleGo (.Tuple es k p) (.ref I) v) Q E s := by
    intro es k p
    cases v with
    | ref a =>
      show wpAny _ _ (load I >>= _) Q E s
      refine wpAny_bind (wpAny_load hg ?_)
      rw [hc]
      generalize o.data = dd
      cases dd with
      | fields vs =>
        show wpAny _ _ (if (_ && _) = true then _ else _) Q E s
        rw [hT]
        exact wpAny_pure h
      | _ => exact wpAny_pure h
    | _ => exact wpAny_pure h
  cases target with
  | Tuple es k p => exact key es k p
  | List es p => exact key [] 0 p
  | _ => exact wpAny_pure h
inductive ForI (cx : XCx) (ε : Sc) (env : Env) (F : Addr → Prop) (s : Shared) (ρ : List Slot) (ad : Nat → Addr) (F0 : Addr → Prop) (h0 : Heap) (wr : List Addr) (St : Nat → Heap → Prop) (items : List D) (go : List D → List Slot → Option (List Slot × Out)) (res : Option (List Slot × Out)) (k : Nat) (s' : Shared) : Prop
  | mk (j : Nat) (F' : Addr → Prop) (ρ₁ : List Slot) (ad₁ : Nat → Addr) (m₁ cm₁ : Str → Option Value) (hj : j ≤ items.length) (hk : k = items.length - j) (x1 : StepS cx env F s ρ ad F' s' ρ₁ ad₁) (hrep : ∀ v d, Rep cx.T F0 h0 v d → Rep cx.T F' s'.heap v d) (hF : ∀ a, F0 a → F' a) (f1 : Frm cx ε env F' s' ρ₁ ad₁ m₁ cm₁) (hst : St j s'.heap)
    (hwr : ∀ b ∈ wr, ¬ F' b ∧ ¬ Mut env ρ₁ ad₁ b) (hg : go (items.drop j) ρ₁ = res)
set_option genInjectivity false in
structure ForL (cx : XCx) (env : Env) (F0 : Addr → Prop) (h0 : Heap) (wr : List Addr) (St : Nat → Heap → Prop) (j : Nat) (F4 : Addr → Prop) (h4 : Heap) (ρ4 : List Slot) (ad4 : Nat → Addr) : Prop where
  p1 : ∀ v d, Rep cx.T F0 h0 v d → Rep cx.T F4 h4 v d
  p2 : ∀ a, F0 a → F4 a
  p3 : St j h4
  p4 : ∀ b ∈ wr, ¬ F4 b ∧ ¬ Mut env ρ4 ad4 b
theorem for_any {target : Expr} {put : D → List Slot → Option (List Slot)} {it : Expr} {x : X} {bs : List Stmt} {b : S} {pos : Pos} (ht : SoundA cx ε target put) (hi : SoundI cx ε it x) (hb : SoundSs cx ε bs b)
    (hs : ∀ env x, foldedSetIterable it env x = pure x) {n cf A env F s ρ ad m cm} (H : HereS cx ε n cf A env F s ρ ad m cm) {items : List D} (hit : evI cf x ρ = some items) {ρ' : List Slot} {o : Out}
    (h : forGo put (ex cf b) items ρ = some (ρ', o)) {Q : Flow → Shared → Prop} {E : Value → Shared → Prop} (hQ : PostS cx ε env F s ρ ad ρ' o Q) : wpAny (model cx.prog cx.w) A (exec (.For target it bs [] pos) env) Q E s := by
  refine wpAny_For (hi n cf A env F s ρ ad m cm H.here items hit _ _ fun I F0 s0 fp wr P St J => ?_) (hs env)
  have hx0 : ∀ b ∈ wr, ¬ cx.X b := fun b hb h => by
    obtain ⟨o, e⟩ := H.wd.xex b h
    rw [(J.new b hb).1] at e; cases e
  refine codeAny_forLoop_any (ForI cx ε env F s ρ ad F0 s0.heap wr St items (forGo put (ex cf b)) (some (ρ', o))) (fun k s' hI => ?_) items.length
    ⟨0, F0, ρ, ad, m, cm, Nat.zero_le _, rfl, .ofStep J.st, fun _ _ h => h, fun _ h => h, (H.step J.st).frm, J.s0, fun b hb => ⟨(J.new b hb).2, fun hm => ?_⟩, h⟩
  rotate_left
  · obtain ⟨o, e⟩ := H.frm.isSome hm
    rw [(J.new b hb).1] at e; cases e
  obtain ⟨j, F', ρ₁, ad₁, m₁, cm₁, hj, rfl, x1, hrep, hF, f1, hst, hwr, hg⟩ := hI
  have hwr' : ∀ b ∈ wr, s.heap.get? b = none ∧ ¬ F' b ∧ ¬ Mut env ρ₁ ad₁ b := fun b hb => ⟨(J.new b hb).1, (hwr b hb).1, (hwr b hb).2⟩
  rcases Nat.lt_or_ge j items.length with hlt | hge
  · refine (J.W A H.bud.hd).item j s' _ _ hlt hst fun v h' tk hP hst' hk => ?_
    obtain ⟨x2, f2⟩ := x1.kept H.ok H.wd f1 hwr' tk hk
    obtain ⟨d, hd, hr⟩ := J.item j v hP
    have hdrop : items.drop j = d :: items.drop (j + 1) := by
      have h1 : items[j]? = some items[j] := List.getElem?_eq_getElem hlt
      rw [h1] at hd
      cases hd
      exact List.drop_eq_getElem_cons hlt
    rw [hdrop] at hg
    unfold forGo at hg
    obtain ⟨ob, T, g1, g2, g3⟩ := J.ty _ _ hst'
    have keepF : ∀ a o, F' a → s'.heap.get? a = some o → h'.get? a = some o := fun a o f e => hk a o (fun hm => (hwr a hm).1 f) e
    have hr2 : ∀ v d, Rep cx.T F0 s0.heap v d → Rep cx.T F' h' v d := fun v d hr => (hrep v d hr).mono (fun _ h => h) keepF
    refine letGo_ok (s := { s' with heap := h', toks := tk }) g1 g2 g3 ?_
    split at hg
    · cases hg
    · rename_i ρ₂ e2
      have H2 := H.stepS x2 f2
      refine ht n cf A env F' _ ρ₁ ad₁ m₁ cm₁ H2 v d ρ₂ (hr2 v d hr) e2 _ _ fun F3 s3 m3 cm3 x3 f3 => ?_
      have H3 := H2.stepS x3 f3
      have later : ∀ {F4 s4 ρ4 ad4 m4 cm4}, StepS cx env F' { s' with heap := h', toks := tk } ρ₁ ad₁ F4 s4 ρ4 ad4 → Frm cx ε env F4 s4 ρ4 ad4 m4 cm4 →
          ForL cx env F0 s0.heap wr St (j + 1) F4 s4.heap ρ4 ad4 := by
        intro F4 s4 ρ4 ad4 m4 cm4 y f4
        refine ⟨fun v d q => y.rep H2 (hr2 v d q), fun a h => y.sub a (hF a h), (J.W A H.bud.hd).frame _ _ _ hst' fun b hb ob' e => ?_, fun b hb => ?_⟩
        · rcases J.deps b hb with hb | hb
          · exact y.keep b ob' e (hx0 b hb) (hwr b hb).2
          · exact y.keep b ob' e (H2.wd.nx b (hF b hb)) fun hm => (f2.notF hm).1 (hF b hb)
        · have hb0 := hb
          rw [J.one b hb] at hb0 ⊢
          refine ⟨fun h => ?_, fun h => ?_⟩
          · rcases y.new I h with q | q | q
            · exact (hwr I hb0).1 q
            · rw [show ({ s' with heap := h', toks := tk } : Shared).heap.get? I = some ob from g1] at q; cases q
            · exact (hwr I hb0).2 q
          · rcases y.mu I h with q | q
            · exact (hwr I hb0).2 q
            · rw [show ({ s' with heap := h', toks := tk } : Shared).heap.get? I = some ob from g1] at q; cases q
      split at hg
      · cases hg
      · rename_i ρ₃ e3
        refine hb n cf A env F3 s3 ρ₂ ad₁ m3 cm3 H3 _ .next e3 _ _ fun f F4 s4 ad4 m4 cm4 x4 f4 q => ?_
        cases q
        obtain ⟨p1, p2, p3, p4⟩ := later (x3.trans x4) f4
        exact ⟨items.length - (j + 1), by omega, j + 1, F4, ρ₃, ad4, m4, cm4, hlt, rfl, x2.trans (x3.trans x4), p1, p2, f4, p3, p4, hg⟩
      · rename_i ρ₃ e3
        refine hb n cf A env F3 s3 ρ₂ ad₁ m3 cm3 H3 _ .cont e3 _ _ fun f F4 s4 ad4 m4 cm4 x4 f4 q => ?_
        cases q
        obtain ⟨p1, p2, p3, p4⟩ := later (x3.trans x4) f4
        exact ⟨items.length - (j + 1), by omega, j + 1, F4, ρ₃, ad4, m4, cm4, hlt, rfl, x2.trans (x3.trans x4), p1, p2, f4, p3, p4, hg⟩
      · rename_i ρ₃ e3
        cases hg
        refine hb n cf A env F3 s3 ρ₂ ad₁ m3 cm3 H3 _ .brk e3 _ _ fun f F4 s4 ad4 m4 cm4 x4 f4 q => ?_
        cases q
        exact hQ .next F4 s4 ad4 m4 cm4 (x2.trans (x3.trans x4)) f4 .next
      · rename_i ρ₃ d' e3
        cases hg
        refine hb n cf A env F3 s3 ρ₂ ad₁ m3 cm3 H3 _ (.ret d') e3 _ _ fun f F4 s4 ad4 m4 cm4 x4 f4 q => ?_
        cases q with
        | ret r => exact hQ _ F4 s4 ad4 m4 cm4 (x2.trans (x3.trans x4)) f4 (.ret r)
  · have ej : j = items.length := by omega
    subst ej
    rw [List.drop_length] at hg
    cases hg
    refine (J.W A H.bud.hd).done s' _ _ hst fun h' tk hk => ?_
    obtain ⟨x2, f2⟩ := x1.kept H.ok H.wd f1 hwr' tk hk
    exact wpAny_execs_nil (hQ .next F' _ ad₁ m₁ cm₁ x2 f2 .next)
theorem soundS_for {x : Str} {i : Nat} {p : Pos} {it : Expr} {y : X} {bs : List Stmt} {b : S} {pos : Pos} (hx : ε.vars.lookup x = some i) (hf : ε.kinds.lookup x ≠ some .free) (hi : SoundI cx ε it y) (hb : SoundSs cx ε bs b)
    (hs : ∀ env x, foldedSetIterable it env x = pure x) : SoundS cx ε (.For (.Name x p) it bs [] pos) (.forE i y b) := by
  intro n cf A env F s ρ ad m cm H ρ' o h Q E hQ
  replace h := (exq_forE cf).symm.trans h
  split at h
  · rename_i items e
    exact for_any (soundA_name hx hf) hi hb hs H e h hQ
  · cases h
end
end Mine
end MpOx
section MpPx
open PySem PySem.Calls PyProof.Rows PySem.Builtin.Str
namespace Mine
section
variable {cx : XCx} {ε : Sc}
theorem evI_seq {cf : Nat → List D → Option D} {x : X} {ρ : List Slot} {items : List D} (h : evI cf (.seqI x) ρ = some items) : ∃ r d, ev cf x ρ = some [r] ∧ r.fz = some d ∧ itemsOf d = some items := by
  unfold evI at h
  split at h
  · rename_i l e
    cases h
    replace e := (evq_seqI _).symm.trans e
    split at e
    · rename_i r e1
      split at e
      · rename_i d e2
        obtain ⟨l', e3, e4⟩ := Option.map_eq_some_iff.mp e
        cases e4
        exact ⟨r, d, e1, e2, e3⟩
      · cases e
    · cases e
  · cases h
theorem iter_new {A : Around} {F₀ F : Addr → Prop} {s₀ s : Shared} {items : List D} {P : Nat → Value → Prop} {St : Nat → Heap → Prop} {fp : List Addr} {o : Obj} (ok : CxOk cx) (w₀ : Wd cx F₀ s₀) (st : Step cx F₀ s₀ F s)
    (W : ∀ A' : Around, A'.handled = none → Walks cx.prog cx.w A' s.heap.objs.size fp [s.heap.objs.size] items.length P St) (s0 : St 0 (s.heap.push o)) (deps : ∀ b ∈ fp, b = s.heap.objs.size ∨ F b)
    (item : ∀ i v, P i v → ∃ d, items[i]? = some d ∧ Rep cx.T F s.heap v d)
    (ty : ∀ i h, St i h → ∃ o T, h.get? s.heap.objs.size = some o ∧ o.cls = .type T ∧ ["enumerate", "zip", "dict_itemiterator", "dict_reverseitemiterator", "odict_iterator", "itertools.zip_longest", "itertools.pairwise"].contains T = false)
    (hl : items.length ≤ lim) (k : Nat) : Iter cx A F₀ s₀ items s.heap.objs.size F { s with heap := s.heap.push o, toks := k } fp [s.heap.objs.size] P St := by
  have stp := Step.push ok st.wd o k
  have fr := fresh_size s.heap
  refine ⟨st.trans stp, W, s0, fun b hb => ?_, fun b hb => by simpa using hb, fun b hb => (deps b hb).imp (fun e => by simp [e]) id, fun i v h => ?_, ty, hl⟩
  · have e : b = s.heap.objs.size := by simpa using hb
    subst e
    exact ⟨st.fresh (st.wd.newNotX fr) fr, st.wd.newNotF fr⟩
  · obtain ⟨d, e, r⟩ := item i v h
    exact ⟨d, e, stp.rep st.wd r⟩
theorem iter_seq {A : Around} (hh : A.handled = none) {F₀ F : Addr → Prop} {s₀ s : Shared} (ok : CxOk cx) (w₀ : Wd cx F₀ s₀) (st : Step cx F₀ s₀ F s) {v : Value} {d : D} (q : Rep cx.T F s.heap v d) {items : List D} (hi : itemsOf d = some items)
    {Q : Value → Shared → Prop} {E : Value → Shared → Prop} (hQ : ∀ I F' s' fp wr P St, Iter cx A F₀ s₀ items I F' s' fp wr P St → Q (.ref I) s') : wpAny (model cx.prog cx.w) A (pyIter v) Q E s := by
  cases q with
  | @list a vs n l f g z q =>
    cases hi
    have hne : a ≠ s.heap.objs.size := Nat.ne_of_lt (Heap.lt_size g)
    have el : items.length = vs.toArray.size := by rw [List.size_toArray]; exact q.length.symm
    refine wpAny_pyIter_list (isList_of g) (hQ _ F _ [s.heap.objs.size, a] [s.heap.objs.size] (fun i v => vs.toArray[i]? = some v) (fun i h => h.IsListIter s.heap.objs.size a i ∧ h.IsList a vs.toArray) ?_)
    refine iter_new (P := fun i v => vs.toArray[i]? = some v) ok w₀ st (fun A' hh => el ▸ Walks.list hh _ a hne vs.toArray) ⟨⟨_, Heap.get?_push_size _ rfl, rfl, rfl⟩, (isList_of g).push _⟩ (fun b hb => ?_) (fun i v h => ?_) (fun i h hs => ?_) (by rw [← q.length]; exact z) s.toks
    · simp only [List.mem_cons, List.not_mem_nil, or_false] at hb
      rcases hb with rfl | rfl
      · exact .inl rfl
      · exact .inr f
    · rw [List.getElem?_toArray] at h
      exact q.getV h
    · obtain ⟨⟨o, g, c, _⟩, _⟩ := hs
      exact ⟨o, _, g, c, by decide⟩
  | @tup a vs n l f g z q =>
    cases hi
    have hne : a ≠ s.heap.objs.size := Nat.ne_of_lt (Heap.lt_size g)
    have el : items.length = vs.toArray.size := by rw [List.size_toArray]; exact q.length.symm
    have ht : s.heap.IsTuple a vs.toArray := ⟨_, g, rfl, n, rfl⟩
    refine wpAny_pyIter_tuple ht (hQ _ F _ [s.heap.objs.size, a] [s.heap.objs.size] (fun i v => vs.toArray[i]? = some v) (fun i h => h.IsTupleIter s.heap.objs.size a i ∧ h.IsTuple a vs.toArray) ?_)
    refine iter_new (P := fun i v => vs.toArray[i]? = some v) ok w₀ st (fun A' hh => el ▸ Walks.tuple hh _ a hne vs.toArray) ⟨⟨_, Heap.get?_push_size _ rfl, rfl, rfl⟩, ht.push _⟩ (fun b hb => ?_) (fun i v h => ?_) (fun i h hs => ?_) (by rw [← q.length]; exact z) s.toks
    · simp only [List.mem_cons, List.not_mem_nil, or_false] at hb
      rcases hb with rfl | rfl
      · exact .inl rfl
      · exact .inr f
    · rw [List.getElem?_toArray] at h
      exact q.getV h
    · obtain ⟨⟨o, g, c, _⟩, _⟩ := hs
      exact ⟨o, _, g, c, by decide⟩
  | @str l t p z =>
    cases hi
    have el : (l.map fun c => D.str [c]).length = (PySem.Str.mk l.toArray).cps.size := by simp
    have item : ∀ i v, SignAt ⟨l.toArray⟩ i v → ∃ d, (l.map fun c => D.str [c])[i]? = some d ∧ Rep cx.T F s.heap v d := by
      rintro i v ⟨c, u, e, rfl⟩
      rw [show (PySem.Str.mk l.toArray).cps = l.toArray from rfl, List.getElem?_toArray] at e
      refine ⟨.str [c], by rw [List.getElem?_map, e]; rfl, .str (l := [c]) u (fun c' h => ?_) (by simp [lim])⟩
      simp only [List.mem_cons, List.not_mem_nil, or_false] at h
      subst h
      exact p _ (List.mem_of_getElem? e)
    have hz : (l.map fun c => D.str [c]).length ≤ lim := by simpa using z
    have deps : ∀ b ∈ [s.heap.objs.size], b = s.heap.objs.size ∨ F b := fun b hb => .inl (by simpa using hb)
    cases ha : (PySem.Str.mk l.toArray).cps.all (· < 128)
    · refine wpAny_pyIter_wide ha (hQ _ F _ _ _ _ _ (iter_new ok w₀ st (fun A' hh => el ▸ Walks.strWide hh _ ⟨l.toArray⟩ t) ⟨_, Heap.get?_push_size _ rfl, rfl, rfl⟩ deps item (fun i h hs => ?_) hz s.toks))
      obtain ⟨o, g, c, _⟩ := hs
      exact ⟨o, _, g, c, by decide⟩
    · refine wpAny_pyIter_ascii ha (hQ _ F _ _ _ _ _ (iter_new ok w₀ st (fun A' hh => el ▸ Walks.strAscii hh _ ⟨l.toArray⟩ t) ⟨_, Heap.get?_push_size _ rfl, rfl, rfl⟩ deps item (fun i h hs => ?_) hz s.toks))
      obtain ⟨o, g, c, _⟩ := hs
      exact ⟨o, _, g, c, by decide⟩
  | _ => cases hi
theorem soundI_seq {e : Expr} {x : X} (h : Sound cx ε e x) : SoundI cx ε e (.seqI x) := by
  intro n cf A env F s ρ ad m cm H items hi Q E hQ
  obtain ⟨r, d, e1, e2, e3⟩ := evI_seq hi
  refine h.ev n cf A env F s ρ ad m cm H r e1 _ _ fun v F' s' st q => ?_
  obtain ⟨F'', st', _, q'⟩ := st.fz H.ok H.wd q e2
  exact iter_seq H.bud.hd H.ok H.wd st' q' e3 hQ
theorem iter_range {A : Around} (hh : A.handled = none) {F₀ F : Addr → Prop} {s₀ s : Shared} (ok : CxOk cx) (w₀ : Wd cx F₀ s₀) (st : Step cx F₀ s₀ F s) {r : Addr} {a b c : Int} {t u v : Tok} (hr : IsRange s.heap r a b c t u v) (hs : Builtin.Range.small a b c = true)
    {k : Nat} (hk : Builtin.Range.rangeSize a b c = (k : Int)) (hl : k ≤ lim)
    {Q : Value → Shared → Prop} {E : Value → Shared → Prop} (hQ : ∀ I F' s' fp wr P St, Iter cx A F₀ s₀ ((upTo k a c).map .int) I F' s' fp wr P St → Q (.ref I) s') : wpAny (model cx.prog cx.w) A (pyIter (.ref r)) Q E s := by
  have el : ((upTo k a c).map D.int).length = k := by simp [upTo]
  let P : Nat → Value → Prop := fun i v => i < k ∧ ∃ t, v = .int (a + i * c) t
  have W : ∀ A' : Around, A'.handled = none → Walks cx.prog cx.w A' s.heap.objs.size [s.heap.objs.size] [s.heap.objs.size] k P (fun i h => IsRangeIter h s.heap.objs.size (a + (i : Nat) * c) ((k : Int) - (i : Nat)) c) := fun A' hh => (Walks.range hh _ a c k).bound
  refine wpAny_pyIter_range hr hs (hQ _ F _ _ _ _ _ (iter_new (P := P) ok w₀ st (by rw [el]; exact W) ?_ (fun b hb => .inl (by simpa using hb)) ?_ (fun i h hs => ⟨_, _, hs, rfl, by decide⟩) (by rw [el]; exact hl) s.toks))
  · have := Heap.get?_push_size s.heap (o := { cls := .type "range_iterator", data := .fields #[rawInt a, rawInt (Builtin.Range.rangeSize a b c), rawInt c] }) rfl
    show IsRangeIter _ _ _ _ _
    rw [hk] at this
    simpa [IsRangeIter, hk] using this
  · rintro i v ⟨hi, t, rfl⟩
    refine ⟨.int (a + i * c), ?_, .int _ t⟩
    rw [List.getElem?_map]
    unfold upTo
    rw [List.getElem?_map, List.getElem?_range hi]
    simp [Int.mul_comm]
theorem small_bd {i : Int} (h : small i = true) : -1000000000 ≤ i ∧ i ≤ 1000000000 := by
  unfold small at h
  simpa using h
theorem toNat_lim {z : Int} (h : z ≤ 1000000) : z.toNat ≤ lim := by unfold lim; omega
theorem rsize_up (a b : Int) : (if a < b then b - a else 0) = ((b - a).toNat : Int) := by split <;> omega
theorem rsize_down (a b : Int) : Builtin.Range.rangeSize a b (-1) = ((a - b).toNat : Int) := by
  unfold Builtin.Range.rangeSize
  simp only [show ¬ ((-1 : Int) > 0) by decide, if_false, show (- -1 : Int) = 1 by decide, Int.ediv_one]
  split <;> omega
theorem small_down {a i : Int} (h3 : -1000000000 ≤ a) (h4 : a ≤ 1000000000) (h6 : -1000000000 ≤ i) (h7 : i ≤ 1000000000) : Builtin.Range.small a i (-1) = true := by
  unfold Builtin.Range.small
  rw [rsize_down]
  unfold Builtin.Range.rangeFitsLong
  simp only [show ¬ ((-1 : Int) > 0) by decide, if_false, Bool.and_eq_true, Bool.or_eq_true, decide_eq_true_eq, beq_iff_eq, show (- -1 : Int) = 1 by decide, Int.ediv_one]
  omega
theorem lo62 {i : Int} (h : -1000000000 ≤ i) : -(2 ^ 62) ≤ i := Int.le_trans (by decide) h
theorem hi62 {i : Int} (h : i ≤ 1000000000) : i < 2 ^ 62 := Int.lt_of_le_of_lt h (by decide)
theorem call_range {A : Around} {n : Nat} (hb : BudE n A) {F₀ F : Addr → Prop} {s₀ s : Shared} (ok : CxOk cx) (w₀ : Wd cx F₀ s₀) (st : Step cx F₀ s₀ F s) {vs : List Value} {ds : List D} (q : BRepL cx F s.heap vs ds) {l : List D} (hl : opRange ds = some l)
    {Q : Value → Shared → Prop} {E : Value → Shared → Prop} (hQ : ∀ I F' s' fp wr P St, Iter cx A F₀ s₀ l I F' s' fp wr P St → Q (.ref I) s') :
    wpAny (model cx.prog cx.w) A (call (.type "range") vs) (fun v s₁ => wpAny (model cx.prog cx.w) A (pyIter v) Q E s₁) E s := by
  rcases ds with _ | ⟨a0, t⟩
  · cases hl
  cases a0 <;> try (cases hl; done)
  rename_i a
  rcases t with _ | ⟨a1, t⟩
  · rename Int => i
    replace hl : (if (small i && decide (i ≤ 1000000)) = true then some (rangeL 0 i) else none) = some l := hl
    split at hl
    · rename_i hi
      cases hl
      obtain ⟨h1, h2⟩ := Bool.and_eq_true _ _ ▸ hi
      have h2 := of_decide_eq_true h2
      obtain ⟨h3, h4⟩ := small_bd h1
      obtain ⟨v, rfl, q1⟩ := q.one
      obtain ⟨t, rfl⟩ := q1.int_inv
      refine call_range_1 ?_
      have st' := st.trans (Step.push ok st.wd ({ cls := .type "range", data := .fields #[.int 0 s.toks, .int i t, .int 1 (s.toks + 1)] } : Obj) (s.toks + 1 + 1))
      refine iter_range hb.hd ok w₀ st' (IsRange.new s.heap 0 i 1 _ _ _) (small_one (by decide) (by decide) (lo62 h3) (hi62 h4)) (k := (i - 0).toNat) (by rw [rangeSize_one, rsize_up]) (toNat_lim (by rw [Int.sub_zero]; exact h2)) hQ
    · cases hl
  cases a1 <;> try (cases hl; done)
  rename_i i
  rcases t with _ | ⟨a2, t⟩
  · replace hl : (if (small a && small i && decide (i - a ≤ 1000000)) = true then some (rangeL a i) else none) = some l := hl
    split at hl
    · rename_i hi
      cases hl
      simp only [Bool.and_eq_true, decide_eq_true_eq] at hi
      obtain ⟨⟨h1, h2⟩, h5⟩ := hi
      obtain ⟨h3, h4⟩ := small_bd h1
      obtain ⟨h6, h7⟩ := small_bd h2
      obtain ⟨v, v', rfl, q1, q2⟩ := q.two
      obtain ⟨t, rfl⟩ := q1.int_inv
      obtain ⟨u, rfl⟩ := q2.int_inv
      refine call_range_2 ?_
      have st' := st.trans (Step.push ok st.wd ({ cls := .type "range", data := .fields #[.int a t, .int i u, .int 1 s.toks] } : Obj) (s.toks + 1))
      refine iter_range hb.hd ok w₀ st' (IsRange.new s.heap a i 1 _ _ _) (small_one (lo62 h3) (hi62 h4) (lo62 h6) (hi62 h7)) (k := (i - a).toNat) (by rw [rangeSize_one, rsize_up]) (toNat_lim h5) hQ
    · cases hl
  cases a2 <;> try (cases hl; done)
  rename_i c
  rcases t with _ | ⟨a3, t⟩ <;> try (cases hl; done)
  · replace hl : (if c = -1 ∧ small a ∧ small i ∧ a - i ≤ 1000000 then some (rangeDown a i) else none) = some l := hl
    split at hl
    · rename_i hi
      cases hl
      obtain ⟨rfl, h1, h2, h5⟩ := hi
      obtain ⟨h3, h4⟩ := small_bd h1
      obtain ⟨h6, h7⟩ := small_bd h2
      cases q with
      | cons q1 q => cases q with | cons q2 q => cases q with | cons q3 q =>
      cases q
      obtain ⟨t, rfl⟩ := q1.int_inv
      obtain ⟨u, rfl⟩ := q2.int_inv
      obtain ⟨x, rfl⟩ := q3.int_inv
      refine call_range_3 (by decide) ?_ (Or.inl (PyProof.noPylong_small (by omega)))
      have st' := st.trans (Step.push ok st.wd ({ cls := .type "range", data := .fields #[.int a t, .int i u, .int (-1) x] } : Obj) s.toks)
      refine iter_range hb.hd ok w₀ st' (IsRange.new s.heap a i (-1) _ _ _) (small_down h3 h4 h6 h7) (k := (a - i).toNat) (rsize_down a i) (toNat_lim h5) hQ
    · cases hl
theorem evI_range {cf : Nat → List D → Option D} {x : X} {ρ : List Slot} {items : List D} (h : evI cf (.rangeI x) ρ = some items) : ∃ rs, ev cf x ρ = some rs ∧ opRange (rs.map R.ds) = some items := by
  unfold evI at h
  split at h
  · rename_i l e
    cases h
    replace e := (evq_rangeI _).symm.trans e
    split at e
    · rename_i rs e1
      obtain ⟨l', e3, e4⟩ := Option.map_eq_some_iff.mp e
      cases e4
      exact ⟨rs, e1, e3⟩
    · cases e
  · cases h
theorem soundI_range {p pos : Pos} {es : List Expr} {x : X} (hk : ε.kinds.lookup ("range" : Str) = some .globalImplicit) (hg : cx.mg ("range" : Str) = none) (h : SoundL cx ε es x false) : SoundI cx ε (.Call (.Name "range" p) es [] pos) (.rangeI x) := by
  intro n cf A env F s ρ ad m cm H items hi Q E hQ
  obtain ⟨rs, e1, e2⟩ := evI_range hi
  rw [call_not_method (by intro _ _ _ e; cases e)]
  refine wpAny_bind (load_builtin H hk hg (by decide) (v := .type "range") (by rfl) (by decide) ?_)
  refine PyProof.Rows.callWith_type (backTo_any h) (evalArgs_ok h H e1 fun vs F' s' st q => ?_)
  exact call_range H.bud H.ok H.wd st q.brep e2 hQ
end
end Mine
end MpPx
section MpQx
open PySem PySem.Calls PyProof.Rows PySem.Builtin.Str
namespace Mine
section
variable {cx : XCx} {ε : Sc} {n : Nat} {cf : Nat → List D → Option D} {A : Around} {env : Env} {F F₀ F' : Addr → Prop} {s s₀ s' : Shared} {ρ ρ' : List Slot} {ad ad' : Nat → Addr} {m cm m' cm' : Str → Option Value}
theorem SlotRep.own_inv {h : Heap} {i : Nat} {ov : Option Value} {l : List D} (q : SlotRep cx F h ad i ov (.own l)) : ov = some (.ref (ad i)) ∧ ∃ vs k, h.get? (ad i) = some (lobj vs.toArray k) ∧ vs.length ≤ lim ∧ RepL cx.T F h vs l := by
  cases q with
  | own _ _ g z q => exact ⟨rfl, _, _, g, z, q⟩
inductive OwnNow (cx : XCx) (F : Addr → Prop) (h : Heap) (a : Addr) (l : List D) : Prop
  | mk (vs : List Value) (k : Nat) (g : h.get? a = some (lobj vs.toArray k)) (z : vs.length ≤ lim) (q : RepL cx.T F h vs l)
theorem own_now (H : HereS cx ε n cf A env F s ρ ad m cm) {x : Str} {i : Nat} (hx : ε.vars.lookup x = some i) {l : List D} (hi : ownAt ρ i = some l) : OwnNow cx F s.heap (ad i) l := by
  have hs := (ownAt_eq hi).1
  rcases H.frm.en.vars x i hx with ⟨_, q⟩ | ⟨_, _, q⟩ <;> rw [hs] at q <;> exact (let ⟨vs, k, g, z, q⟩ := q.own_inv.2; ⟨vs, k, g, z, q⟩)
theorem load_own (H : HereS cx ε n cf A env F s ρ ad m cm) {x : Str} {i : Nat} {p : Pos} (hx : ε.vars.lookup x = some i) (hn : (x == ("__classdict__" : Str)) = false) (hd : (x == ("__debug__" : Str)) = false) {l : List D} (hi : ownAt ρ i = some l)
    {Q : Value → Shared → Prop} {E : Value → Shared → Prop} (h : Q (.ref (ad i)) s) : wpAny (model cx.prog cx.w) A (eval (.Name x p) env) Q E s := by
  have hs := (ownAt_eq hi).1
  refine wpAny_Name (load_var H.here hx hn (fun v q => ?_) (by rw [hs]; intro e; cases e)) hd
  rw [hs] at q
  cases q.own_inv.1
  exact h
theorem mutate_list (H₀ : HereS cx ε n cf A env F₀ s₀ ρ ad m cm) (st : Step cx F₀ s₀ F s) {x : Str} {i : Nat} (hx : ε.vars.lookup x = some i) {l : List D} (hi : ownAt ρ i = some l) {h' : Heap} (sb : Heap.SameBut (ad i) s.heap h') {vs' : List Value} {k' : Nat} {l' : List D}
    (hl' : h'.get? (ad i) = some (lobj vs'.toArray k')) (z : vs'.length ≤ lim) (q' : RepL cx.T F s.heap vs' l') (k : Nat) :
    StepS cx env F₀ s₀ ρ ad F { s with heap := h', toks := k } (ρ.set i (.own l')) ad ∧ Frm cx ε env F { s with heap := h', toks := k } (ρ.set i (.own l')) ad m cm := by
  have H := H₀.step st
  have f := H.frm
  have hs := (ownAt_eq hi).1
  have hb : Mut env ρ ad (ad i) := .inr (.inr ⟨i, l, hs, rfl⟩)
  obtain ⟨nf, nx, _, nl, nc⟩ := f.own i l hs
  obtain ⟨w', keep⟩ := mutated H hb sb k
  have q2 : RepL cx.T F h' vs' l' := q'.mono (fun _ h => h) keep
  refine ⟨put_steps H₀ st hb sb k (fun _ _ => .inl hb) (fun _ _ => rfl), Frm.put H hb sb k (f.en.ns.sameBut sb (Ne.symm nl)) (fun n c hc => ?_) (fun _ _ _ _ => ⟨rfl, rfl⟩) (fun y hy => ?_) (fun _ _ => rfl) (.inl rfl) (fun j l2 hj hne e => hne (f.oinj j i _ _ hj hs e)) (fun _ _ => ?_)⟩
  · obtain ⟨o, g, d⟩ := f.en.cells n c hc
    exact ⟨o, (sb.2 c fun e => nc n (e ▸ hc)).trans g, d⟩
  · have key : ∀ ov, SlotRep cx F s.heap ad i ov (slotAt ρ i) → SlotRep cx F h' ad i ov (.own l') := by
      intro ov q
      rw [hs] at q
      rw [q.own_inv.1]
      exact .own nf nx hl' z q2
    refine ⟨fun hk => ?_, fun hk => ?_⟩
    · rcases f.en.vars y i hy with ⟨_, q⟩ | ⟨e, _⟩
      · exact key _ q
      · rw [hk] at e; rcases e with e | e <;> cases e
    · rcases f.en.vars y i hy with ⟨e, _⟩ | ⟨_, _, q⟩
      · exact absurd e hk
      · exact key _ q
  · exact ⟨nf, nx, ⟨_, _, hl'⟩, nl, nc, fun j l2 hj hs2 e => hj (f.oinj j i _ _ hs2 hs e)⟩
theorem push_upd {h : Heap} {a : Addr} {vs : List Value} {k : Nat} (g : h.get? a = some (lobj vs.toArray k)) (f : Array Value → Array Value) (ws : List Value) (hf : f vs.toArray = ws.toArray) :
    ∃ k', (h.update a (Obj.mapSeq f)).get? a = some (lobj ws.toArray k') := by
  have := IsL.update (n := k) (items := vs.toArray) (show IsL h a vs.toArray k from g) f
  rw [hf] at this
  exact ⟨_, this⟩
theorem erase_arr (vs : List Value) (j : Nat) : vs.toArray.eraseIdxIfInBounds j = (vs.eraseIdx j).toArray := by
  unfold Array.eraseIdxIfInBounds
  split
  · rw [List.eraseIdx_toArray]
  · rename_i h
    rw [List.size_toArray] at h
    rw [List.eraseIdx_of_length_le (by omega)]
theorem exprS {e : Expr} {pos : Pos} {Q : Flow → Shared → Prop} {E : Value → Shared → Prop} (hi : env.scope.kind = .function) (hs : swapsWith e none pos.line env = pure false)
    (h : wpAny (model cx.prog cx.w) A (eval e env) (fun v s' => (∀ a, v ≠ .ref a) ∧ Q .next s') E s) : wpAny (model cx.prog cx.w) A (exec (.Expr e pos) env) Q E s := by
  refine wpAny_Expr (wpAny_mono h (fun v s' h' => ?_) fun _ _ e => e) ?_ hs
  · cases v <;> first | exact h'.2 | exact absurd rfl (h'.1 _)
  · unfold interactive; rw [hi]; rfl
end
section
variable {cx : XCx} {ε : Sc}
theorem ev_cons1 {cf : Nat → List D → Option D} {y : X} {ρ : List Slot} {r : R} (h : ev cf y ρ = some [r]) : ev cf (.cons y .nil) ρ = some [r] := by
  rw [evq_cons, h]; rfl
theorem arg1 {n cf A env F s ρ ad m cm} (H : Here cx ε n cf A env F s ρ ad m cm) {e : Expr} {y : X} {pos : Pos} {f : Value} (h : Sound cx ε e y) (hst : starred e = false) {d : D} (hd : ev1 cf y ρ = some d) {Q : Args → Shared → Prop} {E : Value → Shared → Prop}
    (hQ : ∀ v F' s', Step cx F s F' s' → Rep cx.T F' s'.heap v d → Q ⟨[v], []⟩ s') : wpAny (model cx.prog cx.w) A (evalArgs f true (backTo pos (starEach [e] env)) []) Q E s := by
  obtain ⟨r, e1, e2⟩ := ev1_inv hd
  refine evalArgs_ok (SoundL.cons h hst .nil) H (ev_cons1 e1) fun vs F' s' st q => ?_
  obtain ⟨F'', st', _, q'⟩ := fz_all H.ok H.wd st (fun _ h => h) q (ds := [d]) (by unfold fzAll; rw [e2]; rfl)
  cases q' with
  | cons a b => cases b; exact hQ _ F'' s' st' a
theorem soundS_append {x : Str} {i : Nat} {e : Expr} {y : X} {p apos pos pos' : Pos} (hx : ε.vars.lookup x = some i) (hn : (x == ("__classdict__" : Str)) = false) (hd : (x == ("__debug__" : Str)) = false) (hl : (apos.endLine == pos.line) = true)
    (h : Sound cx ε e y) (hst : starred e = false) : SoundS cx ε (.Expr (.Call (.Attribute (.Name x p) "append" apos) [e] [] pos) pos') (.append i y) := by
  intro n cf A env F s ρ ad m cm H ρ' o he Q E hQ
  replace he := (exq_append cf).symm.trans he
  split at he
  · rename_i d l e1 e2
    split at he
    · rename_i hz
      cases he
      refine exprS H.frm.en.kind rfl ?_
      refine meth_run rfl hl (by simp) (by rw [backTo_any (SoundL.cons h hst .nil)]) ?_
      refine load_own H hx hn hd e2 ?_
      obtain ⟨vs, k, g, _, _⟩ := own_now H hx e2
      refine Calls.getMethod_list_append g rfl rfl ?_
      refine Calls.callWith_builtin (backTo_any (SoundL.cons h hst .nil)) (arg1 H.here h hst e1 fun v F' s' st q => ?_)
      obtain ⟨vs, k, g, z, qs⟩ := own_now (H.step st) hx e2
      show wpAny _ _ (call (.builtin "list.append") [.ref (ad i), v]) _ _ s'
      have hlen : vs.length = l.length := qs.length
      refine call_meets PySem.F.slot_list_append ⟨_, g, rfl⟩ PySem.F.entry_list_append (PySem.F.args_list_append_2 _ _) (list_append (ad i) vs.toArray k v (by rw [List.size_toArray]; exact sz_line z)) ⟨g, ?_⟩
      refine ⟨(fun a e => nomatch e), ?_⟩
      obtain ⟨k', g'⟩ := push_upd g (fun x => x.push v) (vs ++ [v]) (by simp)
      obtain ⟨x1, f1⟩ := mutate_list H st hx e2 (Heap.SameBut.update ..) g' (by simp; omega) (qs.append (.cons q .nil)) s'.toks
      exact hQ .next F' _ ad m cm x1 f1 .next
    · cases he
  · cases he
theorem soundS_pop {x : Str} {i : Nat} {p apos pos pos' : Pos} (hx : ε.vars.lookup x = some i) (hn : (x == ("__classdict__" : Str)) = false) (hd : (x == ("__debug__" : Str)) = false) (hl : (apos.endLine == pos.line) = true) :
    SoundS cx ε (.Expr (.Call (.Attribute (.Name x p) "pop" apos) [] [] pos) pos') (.pop i) := by
  intro n cf A env F s ρ ad m cm H ρ' o he Q E hQ
  replace he := (exq_pop cf).symm.trans he
  split at he
  · rename_i l e2
    split at he
    · rename_i y e1
      cases he
      refine exprS H.frm.en.kind rfl ?_
      refine meth_run rfl hl (by simp) (backTo_any (ε := ε) (cx := cx) .nil) ?_
      refine load_own H hx hn hd e2 ?_
      obtain ⟨vs, k, g, z, qs⟩ := own_now H hx e2
      refine getMethod_builtin (T := "list") ⟨_, g, rfl⟩ PySem.F.plainAttrs_list PySem.F.slot_list_pop PySem.F.type_list_pop (fun a e => ⟨_, by cases e; exact g, rfl⟩) ?_
      refine Calls.callWith_builtin (backTo_any (ε := ε) (cx := cx) .nil) (PySem.evalArgs_none ?_)
      show wpAny _ _ (call (.builtin "list.pop") [.ref (ad i)]) _ _ s
      have hlen : vs.length = l.length := qs.length
      rw [List.getLast?_eq_getElem?] at e1
      obtain ⟨v, hv, rv⟩ := qs.get e1
      cases rv with
      | str t pp zz =>
      refine call_meets PySem.F.slot_list_pop ⟨_, g, rfl⟩ PySem.F.entry_list_pop (PySem.F.args_list_pop_1 _) (MeetsSeq.list_pop_last (ad i) vs.toArray k _ (by rw [List.size_toArray, List.getElem?_toArray, hlen]; exact hv) (by rw [List.size_toArray]; exact sz_line z)) ⟨g, ?_⟩
      refine ⟨(fun a e => nomatch e), ?_⟩
      obtain ⟨k', g'⟩ := push_upd g (fun xs => xs.eraseIdxIfInBounds (vs.toArray.size - 1)) vs.dropLast (by
        show vs.toArray.eraseIdxIfInBounds (vs.toArray.size - 1) = _
        rw [erase_arr, List.size_toArray, List.eraseIdx_length_sub_one])
      obtain ⟨x1, f1⟩ := mutate_list H (Step.refl H.wd) hx e2 (Heap.SameBut.update ..) g' (by simp; omega) qs.dropLast s.toks
      exact hQ .next F _ ad m cm x1 f1 .next
    · cases he
  · cases he
theorem place_seq {i : Int} {n p : Nat} (h : place i n = some p) : seqIndex? i n = some p ∧ p < n := by
  unfold place at h
  unfold seqIndex?
  split at h
  · split at h
    · cases h
      rename_i h1 h2
      have : ¬ i < 0 := by omega
      simp [this, h1, h2]
      skip
    · cases h
  · split at h
    · cases h
      rename_i h1 h2
      have : i < 0 := by omega
      simp [this, h2]
      omega
    · cases h
theorem small_fits {i : Int} (h : small i = true) : Builtin.List.listFitsIndex i = true := by
  obtain ⟨h1, h2⟩ := small_bd h
  unfold Builtin.List.listFitsIndex
  simp only [Bool.and_eq_true, decide_eq_true_eq]
  omega
theorem soundS_setItem {x : Str} {i : Nat} {ek e : Expr} {k y : X} {p pos pos' : Pos} (hx : ε.vars.lookup x = some i) (hn : (x == ("__classdict__" : Str)) = false) (hd : (x == ("__debug__" : Str)) = false)
    (hk : Sound cx ε ek k) (h : Sound cx ε e y) (hs : ∀ env, swapsWith e (some (.Subscript (.Name x p) ek pos')) pos.line env = pure false) : SoundS cx ε (.Assign [.Subscript (.Name x p) ek pos'] e pos) (.setItem i k y) := by
  intro n cf A env F s ρ ad m cm H ρ' o he Q E hQ
  replace he := (exq_setItem cf).symm.trans he
  split at he
  · rename_i d j l e1 e2 e3
    split at he
    · rename_i hsm
      split at he
      · rename_i pl hp
        cases he
        refine wpAny_Assign_Subscript (eval_fz H h e1 fun v F1 s1 st1 q => ?_) (hs env)
        have H1 := H.step st1
        refine load_own H1 hx hn hd e3 ?_
        refine eval_fz H1 hk e2 fun kv F2 s2 st2 qk => ?_
        have H2 := H1.step st2
        obtain ⟨vs, kk, g, z, qs⟩ := own_now H2 hx e3
        have q2 := st2.rep st1.wd q
        cases qk with
        | int _ t =>
        have hlen : vs.length = l.length := qs.length
        obtain ⟨h1, h2⟩ := place_seq hp
        refine setItem_own (isList_of g) g (small_fits hsm) (by rw [List.size_toArray, hlen]; exact h1) (by rw [List.size_toArray, hlen]; exact h2) ?_
        obtain ⟨k', g'⟩ := push_upd g (fun xs => xs.setIfInBounds pl v) (vs.set pl v) (by simp)
        obtain ⟨x1, f1⟩ := mutate_list H (st1.trans st2) hx e3 (Heap.SameBut.update ..) g' (by simp; omega) (qs.set pl q2) s2.toks
        exact hQ .next F2 _ ad m cm x1 f1 .next
      · cases he
    · cases he
  · cases he
end
end Mine
end MpQx
section MpRx
open PySem PySem.Calls PyProof.Rows PySem.Builtin.Str
namespace Mine
section
variable {cx : XCx} {ε : Sc}
theorem soundS_alias {x y : Str} {i j : Nat} {p p' apos pos : Pos} (hx : ε.vars.lookup x = some i) (hf : ε.kinds.lookup x ≠ some .free) (hy : ε.vars.lookup y = some j) (hn : (y == ("__classdict__" : Str)) = false) (hd : (y == ("__debug__" : Str)) = false) :
    SoundS cx ε (.Assign [.Name x p'] (.Attribute (.Name y p) "append" apos) pos) (.alias i j) := by
  intro n cf A env F s ρ ad m cm H ρ' o he Q E hQ
  replace he := (exq_alias cf).symm.trans he
  split at he
  · rename_i l e1
    cases he
    refine wpAny_Assign_Name ?_ rfl
    rw [arm_eval_Attribute]
    show wpAny _ _ (do
      let o ← attributeBase (.Name y p) "append" env (eval (.Name y p) env)
      standAt apos.atName
      let r ← holding [o] (getAttr o "append" true)
      letTemporaryGo (.Name y p) o r
      pure r) _ _ _
    rw [plainBase_ok rfl]
    refine wpAny_bind (load_own H hy hn hd e1 ?_)
    obtain ⟨vs, k, g, z, qs⟩ := own_now H hy e1
    refine wpAny_bind (wpAny_standAt (wpAny_bind (wpAny_holding (getAttr_append g ?_))))
    refine wpAny_bind (wpAny_pure (wpAny_pure ?_))
    have st := Step.push H.ok H.wd (appObj (ad j)) (s.toks + 1)
    have g' : (s.heap.push (appObj (ad j))).get? s.heap.objs.size = some (appObj (ad j)) := Heap.get?_push_size _ rfl
    have st' := st.freeze H.ok H.wd (fresh_size _) g'
    refine store_var H st' hx hf (sl := .app j) (ad' := ad) (fun _ _ => rfl) (.inl rfl) (fun h' hk => .app (.inr rfl) (hk _ _ (.inl (.inr rfl)) g') rfl) (fun _ e => nomatch e) fun s'' m' cm' x f => hQ .next _ s'' ad m' cm' x f .next
  · cases he
theorem soundS_appendVia {x y : Str} {i j : Nat} {e : Expr} {z : X} {p pos pos' : Pos} (hx : ε.vars.lookup x = some i) (hy : ε.vars.lookup y = some j) (hn : (x == ("__classdict__" : Str)) = false) (hd : (x == ("__debug__" : Str)) = false)
    (h : Sound cx ε e z) (hst : starred e = false) : SoundS cx ε (.Expr (.Call (.Name x p) [e] [] pos) pos') (.appendVia i j z) := by
  intro n cf A env F s ρ ad m cm H ρ' o he Q E hQ
  replace he := (exq_appendVia cf).symm.trans he
  split at he
  · rename_i j' e0
    split at he
    · rename_i ej
      subst ej
      split at he
      · rename_i d l e1 e2
        split at he
        · rename_i hz
          cases he
          have hs : slotAt ρ i = .app j' := by unfold slotAt; simp [List.getD, e0]
          refine exprS H.frm.en.kind rfl ?_
          rw [call_not_method (by intro _ _ _ e; cases e)]
          refine wpAny_bind (wpAny_Name (load_var H.here hx hn (fun v q => ?_) (by rw [hs]; intro e; cases e)) hd)
          rw [hs] at q
          cases q with
          | @app b o _ fb g eo =>
          subst eo
          refine callWith_bound (l := ad j') (backTo_any (SoundL.cons h hst .nil)) (arg1 H.here h hst e1 fun v F' s' st q => ?_)
          have g' := st.keep _ _ g (H.wd.nx _ fb)
          refine ⟨g', ?_⟩
          obtain ⟨vs, k, gl, z, qs⟩ := own_now (H.step st) hy e2
          have hlen : vs.length = l.length := qs.length
          refine wpAny_call (bound_call g' gl (append_code gl (by rw [List.size_toArray]; exact sz_line z) ?_))
          refine ⟨(fun a e => nomatch e), ?_⟩
          obtain ⟨k', gk⟩ := push_upd gl (fun x => x.push v) (vs ++ [v]) (by simp)
          obtain ⟨x1, f1⟩ := mutate_list H st hy e2 (Heap.SameBut.update ..) gk (by simp; omega) (qs.append (.cons q .nil)) s'.toks
          exact hQ .next F' _ ad m cm x1 f1 .next
        · cases he
      · cases he
    · cases he
  · cases he
theorem soundS_aug {x : Str} {i : Nat} {e : Expr} {z : X} {p pos : Pos} (hx : ε.vars.lookup x = some i) (hf : ε.kinds.lookup x ≠ some .free) (hn : (x == ("__classdict__" : Str)) = false) (h : Sound cx ε e z) :
    SoundS cx ε (.AugAssign (.Name x p) .Add e pos) (.aug i z) := by
  intro n cf A env F s ρ ad m cm H ρ' o he Q E hQ
  replace he := (exq_aug cf).symm.trans he
  split at he
  · rename_i a b e0 e1
    split at he
    · rename_i hz
      cases he
      have hs : slotAt ρ i = .val (.str a) := by unfold slotAt; simp [List.getD, e0]
      refine wpAny_AugAssign_Name (load_var H.here hx hn (fun v q => ?_) (by rw [hs]; intro e; cases e))
      rw [hs] at q
      cases q with
      | val q =>
      cases q with
      | str t pa za =>
      refine eval_fz H h e1 fun v F' s' st q => ?_
      cases q with
      | str u pb zb =>
      refine PyProof.Rows.iadd_str (fun t' tk => ?_) (by
        show a.toArray.size + b.toArray.size ≤ sizeLine
        rw [List.size_toArray, List.size_toArray]; exact sz_line hz)
      have e : (PySem.Str.mk a.toArray ++ PySem.Str.mk b.toArray) = PySem.Str.mk (a ++ b).toArray := by
        show PySem.Str.mk (a.toArray ++ b.toArray) = _
        simp
      rw [e]
      have st2 := st.toks tk
      have r : Rep cx.T F' s'.heap (.str ⟨(a ++ b).toArray⟩ t') (.str (a ++ b)) := .str _ (fun c hc => (List.mem_append.mp hc).elim (pa c) (pb c)) (by rw [List.length_append]; exact hz)
      exact store_val H st2 hx hf r fun s'' m' cm' x f => hQ .next F' s'' ad m' cm' x f .next
    · cases he
  · cases he
end
end Mine
end MpRx
section MpSx
open PySem PySem.Calls PyProof.Rows PySem.Builtin.Str
namespace Mine
inductive Stores (cx : XCx) (ε : Sc) (A : Around) (env : Env) : List (Value → Sem Unit) → List Nat → Prop
  | nil : Stores cx ε A env [] []
  | cons {f : Value → Sem Unit} {fs : List (Value → Sem Unit)} {x : Str} {i : Nat} {is : List Nat} : ε.vars.lookup x = some i → ε.kinds.lookup x ≠ some .free →
      (∀ (v : Value) (Q : Unit → Shared → Prop) (E : Value → Shared → Prop) (s : Shared), wpAny (model cx.prog cx.w) A (storeName env x v) Q E s → wpAny (model cx.prog cx.w) A (f v) Q E s) → Stores cx ε A env fs is → Stores cx ε A env (f :: fs) (i :: is)
section
variable {cx : XCx} {ε : Sc}
theorem Stores.run {n cf A env} {fs : List (Value → Sem Unit)} {is : List Nat} (S : Stores cx ε A env fs is) : ∀ {F s ρ ad m cm}, HereS cx ε n cf A env F s ρ ad m cm → ∀ {vs : List Value} {ds : List D}, RepL cx.T F s.heap vs ds → ds.length = is.length → ∀ {Q : Unit → Shared → Prop} {E : Value → Shared → Prop},
    (∀ F' s' m' cm', StepS cx env F s ρ ad F' s' (setAll ρ is ds) ad → Frm cx ε env F' s' (setAll ρ is ds) ad m' cm' → Q () s') → wpAny (model cx.prog cx.w) A (assignInOrder fs vs) Q E s := by
  induction S with
  | nil =>
    intro F s ρ ad m cm H vs ds q hl Q E hQ
    cases ds with
    | nil => cases q; exact wpAny_pure (hQ F s m cm (StepS.refl H.wd) H.frm)
    | cons _ _ => cases hl
  | @cons f fs x i is hx hf hs S ih =>
    intro F s ρ ad m cm H vs ds q hl Q E hQ
    cases ds with
    | nil => cases hl
    | cons d ds =>
      cases q with
      | @cons v vs _ _ a b =>
      show wpAny _ _ (do holding vs (f v); assignInOrder fs vs) Q E s
      refine wpAny_bind (wpAny_holding (hs v _ _ _ (store_val H (Step.refl H.wd) hx hf a fun s' m' cm' x1 f1 => ?_)))
      have H1 := H.stepS x1 f1
      exact ih H1 (x1.repL H b) (by simpa using hl) fun F2 s2 m2 cm2 x2 f2 => hQ F2 s2 m2 cm2 (x1.trans x2) f2
theorem unpack_at {n cf A env F s ρ ad m cm} (H : HereS cx ε n cf A env F s ρ ad m cm) {a : Addr} {vs : List Value} (ht : s.heap.IsTuple a vs.toArray) {ds : List D} (q : RepL cx.T F s.heap vs ds) {k : Nat} (hk : ds.length = k) {Q : List Value → Shared → Prop} {E : Value → Shared → Prop}
    (hQ : ∀ vs s', Step cx F s F s' → RepL cx.T F s'.heap vs ds → Q vs s') : wpAny (model cx.prog cx.w) A (unpackItems (.ref a) k none) Q E s := by
  have hk' : k = vs.toArray.size := by rw [List.size_toArray, q.length, hk]
  rw [hk']
  refine wpAny_unpackItems_tuple H.bud.hd ht fun h' he => ?_
  have st : Step cx F s F { s with heap := h' } := Step.grown H.ok H.wd s.toks fun b o e => he b o (Nat.ne_of_lt (Heap.lt_size e)) e
  refine hQ _ _ st ?_
  have := st.repL H.wd q
  simpa using this
theorem target_at {n cf A env F s ρ ad m cm} (H : HereS cx ε n cf A env F s ρ ad m cm) {elts : List Expr} {k : Nat} {pos : Pos} {a : Addr} {vs : List Value} (ht : s.heap.IsTuple a vs.toArray) {ds : List D} (q : RepL cx.T F s.heap vs ds) {is : List Nat} (hl : ds.length = is.length)
    (hlen : (assignEach elts env).length = is.length) (hst : (assignEach elts env).findIdx? (·.1) = none) (S : Stores cx ε A env ((assignEach elts env).map (·.2)) is) {Q : Unit → Shared → Prop} {E : Value → Shared → Prop}
    (hQ : ∀ F' s' m' cm', StepS cx env F s ρ ad F' s' (setAll ρ is ds) ad → Frm cx ε env F' s' (setAll ρ is ds) ad m' cm' → Q () s') : wpAny (model cx.prog cx.w) A (assign (.Tuple elts k pos) env (.ref a)) Q E s := by
  rw [arm_assign_Tuple]
  refine wpAny_bind (wpAny_standAt ?_)
  unfold unpack
  rw [hlen, hst]
  refine wpAny_bind (wpAny_holding (unpack_at H ht q hl fun vs s' st q' => ?_))
  have H1 := H.step st
  exact S.run H1 q' hl fun F2 s2 m2 cm2 x2 f2 => hQ F2 s2 m2 cm2 ((StepS.ofStep st).trans x2) f2
theorem tup_is {T : Nat → Addr} {F : Addr → Prop} {h : Heap} {v : Value} {ds : List D} (q : Rep T F h v (.tup ds)) : ∃ a vs, v = .ref a ∧ h.IsTuple a vs.toArray ∧ RepL T F h vs ds := by
  cases q with
  | tup f g z q => exact ⟨_, _, rfl, ⟨_, g, rfl, _, rfl⟩, q⟩
theorem unpack_run {n cf A env F s ρ ad m cm} (H : HereS cx ε n cf A env F s ρ ad m cm) {v : Value} {ds : List D} (q : Rep cx.T F s.heap v (.tup ds)) {k : Nat} (hk : ds.length = k) {Q : List Value → Shared → Prop} {E : Value → Shared → Prop}
    (hQ : ∀ vs s', Step cx F s F s' → RepL cx.T F s'.heap vs ds → Q vs s') : wpAny (model cx.prog cx.w) A (unpackItems v k none) Q E s := by
  obtain ⟨a, vs, rfl, ht, q'⟩ := tup_is q
  exact unpack_at H ht q' hk hQ
theorem target_run {n cf A env F s ρ ad m cm} (H : HereS cx ε n cf A env F s ρ ad m cm) {elts : List Expr} {k : Nat} {pos : Pos} {v : Value} {ds : List D} (q : Rep cx.T F s.heap v (.tup ds)) {is : List Nat} (hl : ds.length = is.length)
    (hlen : (assignEach elts env).length = is.length) (hst : (assignEach elts env).findIdx? (·.1) = none) (S : Stores cx ε A env ((assignEach elts env).map (·.2)) is) {Q : Unit → Shared → Prop} {E : Value → Shared → Prop}
    (hQ : ∀ F' s' m' cm', StepS cx env F s ρ ad F' s' (setAll ρ is ds) ad → Frm cx ε env F' s' (setAll ρ is ds) ad m' cm' → Q () s') : wpAny (model cx.prog cx.w) A (assign (.Tuple elts k pos) env v) Q E s := by
  obtain ⟨a, vs, rfl, ht, q'⟩ := tup_is q
  exact target_at H ht q' hl hlen hst S hQ
theorem storesName {A : Around} {env : Env} {x : Str} {p : Pos} : ∀ (v : Value) (Q : Unit → Shared → Prop) (E : Value → Shared → Prop) (s : Shared), wpAny (model cx.prog cx.w) A (storeName env x v) Q E s → wpAny (model cx.prog cx.w) A (assign (.Name x p) env v) Q E s :=
  fun _ _ _ _ h => wpAny_assign_Name h
theorem soundS_assign3 {x y w : Str} {i j l : Nat} {p p' p'' pos' pos : Pos} {k : Nat} {e : Expr} {z : X} (hx : ε.vars.lookup x = some i) (hy : ε.vars.lookup y = some j) (hw' : ε.vars.lookup w = some l) (hfx : ε.kinds.lookup x ≠ some .free) (hfy : ε.kinds.lookup y ≠ some .free) (hfw : ε.kinds.lookup w ≠ some .free)
    (h : Sound cx ε e z) (hs : ∀ env, swapsWith e (some (.Tuple [.Name x p, .Name y p', .Name w p''] k pos')) pos.line env = pure false) (hw : ∀ env, swappedStores [.Tuple [.Name x p, .Name y p', .Name w p''] k pos'] e env = pure none) :
    SoundS cx ε (.Assign [.Tuple [.Name x p, .Name y p', .Name w p''] k pos'] e pos) (.assign3 i j l z) := by
  intro n cf A env F s ρ ad m cm H ρ' o he Q E hQ
  replace he := (exq_assign3 cf).symm.trans he
  split at he <;> cases he
  rename_i a b c e1
  refine wpAny_Assign_stores (eval_fz H h e1 fun v F1 s1 st q => ?_) (hs env) (hw env)
  show wpAny _ _ (assign (.Tuple [.Name x p, .Name y p', .Name w p''] k pos') env v) _ _ _
  have H1 := H.step st
  exact target_run H1 q (is := [i, j, l]) rfl rfl rfl (.cons hx hfx storesName (.cons hy hfy storesName (.cons hw' hfw storesName .nil))) fun F2 s2 m2 cm2 x2 f2 => hQ .next F2 s2 ad m2 cm2 ((StepS.ofStep st).trans x2) f2 .next
theorem soundS_swap2 {x y : Str} {i j : Nat} {ts : List Expr} {pos' pos : Pos} {k : Nat} {e : Expr} {z : X} (hx : ε.vars.lookup x = some i) (hy : ε.vars.lookup y = some j) (hfx : ε.kinds.lookup x ≠ some .free) (hfy : ε.kinds.lookup y ≠ some .free) (hij : i ≠ j)
    (h : Sound cx ε e z) (hs : ∀ env, swapsWith e (some (.Tuple ts k pos')) pos.line env = pure false) (hw : ∀ env : Env, env.scope.kind = .function → env.scope.names = ε.kinds → swappedStores [.Tuple ts k pos'] e env = pure (some [x, y])) :
    SoundS cx ε (.Assign [.Tuple ts k pos'] e pos) (.assign2 i j z) := by
  intro n cf A env F s ρ ad m cm H ρ' o he Q E hQ
  replace he := (exq_assign2 cf).symm.trans he
  split at he <;> cases he
  rename_i a b e1
  rw [exec_Assign_arm]
  refine wpAny_bind (wpAny_standAt ?_)
  rw [show swapsWithSole [.Tuple ts k pos'] e pos.line env = pure false from hs env]
  refine wpAny_bind (wpAny_pure ?_)
  rw [if_neg (by decide)]
  refine wpAny_bind (eval_fz H h e1 fun v F1 s1 st q => ?_)
  rw [hw env H.frm.en.kind H.frm.en.names]
  refine wpAny_bind (wpAny_pure ?_)
  have H1 := H.step st
  show wpAny _ _ (do
    rule "assign.swapped-stores"
    let items ← unpackItems v 2 none
    assignInOrder [bindName env y, bindName env x] items.reverse
    pure Flow.next) _ _ _
  refine wpAny_bind (wpAny_rule (wpAny_bind (unpack_run H1 q rfl fun vs s2 st2 q2 => ?_)))
  have H2 := H1.step st2
  have q3 := q2.reverse
  have S : Stores cx ε A env [bindName env y, bindName env x] [j, i] := .cons hy hfy (fun _ _ _ _ h => wpAny_bindName h) (.cons hx hfx (fun _ _ _ _ h => wpAny_bindName h) .nil)
  refine wpAny_bind (S.run H2 q3 rfl fun F3 s3 m3 cm3 x3 f3 => wpAny_pure ?_)
  have e : setAll ρ [j, i] [a, b].reverse = (ρ.set i (.val a)).set j (.val b) := by
    show (ρ.set j (.val b)).set i (.val a) = _
    rw [List.set_comm _ _ hij]
  rw [e] at x3 f3
  exact hQ .next F3 s3 ad m3 cm3 (((StepS.ofStep st).trans (StepS.ofStep st2)).trans x3) f3 .next
theorem soundS_try {body : List Stmt} {h₀ : ExceptHandler} {hs : List ExceptHandler} {b : S} {pos : Pos} (hb : SoundSs cx ε body b) : SoundS cx ε (.Try body (h₀ :: hs) [] [] pos) (.try_ b) := by
  intro n cf A env F s ρ ad m cm H ρ' o h Q E hQ
  replace h := (exq_try_ cf).symm.trans h
  refine wpAny_Try_except (hb n cf A env F s ρ ad m cm H ρ' o h _ _ fun f F' s' ad' m' cm' x fr q => ?_)
  cases q with
  | next => exact wpAny_execs_nil (hQ _ F' s' ad' m' cm' x fr .next)
  | brk => exact hQ _ F' s' ad' m' cm' x fr .brk
  | cont => exact hQ _ F' s' ad' m' cm' x fr .cont
  | ret r => exact hQ _ F' s' ad' m' cm' x fr (.ret r)
end
end Mine
end MpSx
section MpTx
open PySem PySem.Calls PyProof.Rows PySem.Builtin.Str
namespace Mine
theorem closure_aux {env : Env} : ∀ (names : List (Str × NameKind)) (cs : List (Str × Addr)), (∀ n k, (n, k) ∈ names → k = .free → ∃ c, env.cells.lookup n = some c) → (∀ n c, cs.lookup n = some c → env.cells.lookup n = some c) →
    ∃ cs', (forIn names cs fun (x : Str × NameKind) (r : List (Str × Addr)) => (if (x.2 == NameKind.free) = true then do let c ← cellOf env x.1; pure (ForInStep.yield ((x.1, c) :: r)) else pure (ForInStep.yield r) : Sem (ForInStep (List (Str × Addr))))) = (pure cs' : Sem _) ∧
      (∀ n c, cs'.lookup n = some c → env.cells.lookup n = some c) ∧ (∀ n, (cs.lookup n).isSome ∨ (n, NameKind.free) ∈ names → (cs'.lookup n).isSome)
  | [], cs, _, h2 => ⟨cs, rfl, h2, fun n h => h.elim id fun h => nomatch h⟩
  | (n, k) :: r, cs, h1, h2 => by
    rw [List.forIn_cons]
    by_cases hk : k = .free
    · subst hk
      obtain ⟨c, hc⟩ := h1 n .free List.mem_cons_self rfl
      obtain ⟨cs', e, h3, h4⟩ := closure_aux r ((n, c) :: cs) (fun n' k' h => h1 n' k' (List.mem_cons_of_mem _ h)) (fun n' c' h => by
        rw [List.lookup_cons] at h
        cases hn : n' == n with
        | true => rw [hn] at h; cases h; rw [beq_iff_eq.mp hn]; exact hc
        | false => rw [hn] at h; exact h2 n' c' h)
      refine ⟨cs', ?_, h3, fun n' h => h4 n' ?_⟩
      · have e1 : cellOf env n = pure c := by unfold cellOf; rw [hc]
        simp only [beq_self_eq_true, if_true, e1, pure_bind]
        exact e
      · rw [List.lookup_cons]
        cases hn : n' == n with
        | true => exact .inl rfl
        | false =>
          rcases h with h | h
          · exact .inl h
          · rcases List.mem_cons.mp h with h | h
            · cases h; simp at hn
            · exact .inr h
    · obtain ⟨cs', e, h3, h4⟩ := closure_aux r cs (fun n' k' h => h1 n' k' (List.mem_cons_of_mem _ h)) h2
      have hb : (k == NameKind.free) = false := by simpa using hk
      refine ⟨cs', ?_, h3, fun n' h => h4 n' (h.imp id fun h => ?_)⟩
      · simp only [hb, Bool.false_eq_true, if_false, pure_bind]
        exact e
      · rcases List.mem_cons.mp h with h | h
        · cases h; exact absurd rfl hk
        · exact h
theorem closure_ok {scope : Scope} {env : Env} (h : ∀ n k, (n, k) ∈ scope.names → k = .free → ∃ c, env.cells.lookup n = some c) :
    ∃ cl, closureFor scope env = pure cl ∧ (∀ n c, cl.lookup n = some c → env.cells.lookup n = some c) ∧ (∀ n, (n, NameKind.free) ∈ scope.names → (cl.lookup n).isSome) := by
  obtain ⟨cs', e, h3, h4⟩ := closure_aux scope.names [] h (fun _ _ h => nomatch h)
  refine ⟨cs', ?_, h3, fun n h => h4 n (.inr h)⟩
  unfold closureFor
  simp only [bind_pure]
  refine Eq.trans ?_ e
  congr 1
noncomputable def relab (ks : List (Str × NameKind)) (names : List (Str × NameKind)) : List (Str × NameKind) :=
  names.map fun (n, k) => if (k == .free && ks.lookup n == some .cell) then (n, .cell) else (n, k)
noncomputable def compSc (ε : Sc) (scope : Scope) (tv : List (Str × Nat)) : Sc :=
  ⟨relab ε.kinds scope.names, tv ++ ε.vars.filter fun y => scope.names.lookup y.1 == some .free, ε.code⟩
theorem relab_local {ks : List (Str × NameKind)} {x : Str} : ∀ {names : List (Str × NameKind)}, names.lookup x = some .local → (relab ks names).lookup x = some .local
  | [], h => nomatch h
  | (n, k) :: r, h => by
    unfold relab
    rw [List.map_cons]
    rw [List.lookup_cons] at h
    cases hx : x == n with
    | true =>
      rw [hx] at h
      cases h
      show List.lookup x ((n, NameKind.local) :: _) = _
      rw [List.lookup_cons, hx]
    | false =>
      rw [hx] at h
      by_cases hc : (k == .free && ks.lookup n == some .cell) = true
      · simp only [hc, if_true, List.lookup_cons, hx]; exact relab_local h
      · simp only [if_neg hc, List.lookup_cons, hx]; exact relab_local h
theorem relab_free {ks : List (Str × NameKind)} {x : Str} : ∀ {names : List (Str × NameKind)}, names.lookup x = some .free → (relab ks names).lookup x = some .cell ∨ (relab ks names).lookup x = some .free
  | [], h => nomatch h
  | (n, k) :: r, h => by
    unfold relab
    rw [List.map_cons]
    rw [List.lookup_cons] at h
    cases hx : x == n with
    | true =>
      rw [hx] at h
      cases h
      by_cases hc : (NameKind.free == .free && ks.lookup n == some .cell) = true
      · left; simp only [hc, if_true, List.lookup_cons, hx]
      · right; simp only [if_neg hc, List.lookup_cons, hx]
    | false =>
      rw [hx] at h
      by_cases hc : (k == .free && ks.lookup n == some .cell) = true
      · simp only [hc, if_true, List.lookup_cons, hx]; exact relab_free h
      · simp only [if_neg hc, List.lookup_cons, hx]; exact relab_free h
theorem lookup_filter_key {β : Type} {p : Str → Bool} {x : Str} {j : β} : ∀ {l : List (Str × β)}, (l.filter fun y => p y.1).lookup x = some j → l.lookup x = some j ∧ p x = true
  | [], h => nomatch h
  | (n, k) :: r, h => by
    rw [List.filter_cons] at h
    rw [List.lookup_cons]
    cases hx : x == n with
    | true =>
      have e := beq_iff_eq.mp hx
      subst e
      by_cases hp : p x = true
      · simp only [hp, if_true, List.lookup_cons, hx] at h
        exact ⟨h, hp⟩
      · rw [if_neg hp] at h
        exact absurd (lookup_filter_key h).2 hp
    | false =>
      by_cases hp : p n = true
      · simp only [hp, if_true, List.lookup_cons, hx] at h
        exact lookup_filter_key h
      · rw [if_neg hp] at h
        exact lookup_filter_key h
theorem lookup_append {β : Type} {x : Str} : ∀ {l r : List (Str × β)}, (l ++ r).lookup x = (match l.lookup x with | some b => some b | none => r.lookup x)
  | [], r => rfl
  | (n, k) :: l, r => by
    rw [List.cons_append, List.lookup_cons, List.lookup_cons]
    cases hx : x == n with
    | true => rfl
    | false => exact lookup_append
noncomputable def updL (m : Str → Option Value) : List Str → List Value → Str → Option Value
  | x :: xs, v :: vs => updL (fun y => if y = x then some v else m y) xs vs
  | _, _ => m
theorem updL_off {x : Str} : ∀ {xs : List Str} {vs : List Value} {m : Str → Option Value}, x ∉ xs → updL m xs vs x = m x
  | [], _, _, _ => rfl
  | _ :: _, [], _, _ => rfl
  | y :: xs, v :: vs, m, h => by
    show updL _ xs vs x = _
    rw [updL_off fun h' => h (List.mem_cons_of_mem _ h')]
    exact if_neg fun (e : x = y) => h (by rw [e]; exact List.mem_cons_self)
theorem setAll_off {j : Nat} : ∀ {is : List Nat} {ds : List D} {ρ : List Slot}, j ∉ is → slotAt (setAll ρ is ds) j = slotAt ρ j
  | [], _, _, _ => rfl
  | _ :: _, [], _, _ => rfl
  | i :: is, d :: ds, ρ, h => by
    show slotAt (setAll (ρ.set i (.val d)) is ds) j = _
    rw [setAll_off fun h' => h (List.mem_cons_of_mem _ h'), slotAt_set, if_neg fun (e : j = i) => h (by rw [e]; exact List.mem_cons_self)]
theorem target_slots {cx : XCx} {F : Addr → Prop} {h : Heap} {ad : Nat → Addr} {x : Str} {i : Nat} : ∀ {xs : List Str} {is : List Nat} {vs : List Value} {ds : List D} {m : Str → Option Value} {ρ : List Slot}, xs.Nodup → is.Nodup → xs.length = is.length → ds.length = is.length → RepL cx.T F h vs ds → (xs.zip is).lookup x = some i →
    SlotRep cx F h ad i (updL m xs vs x) (slotAt (setAll ρ is ds) i) := by
  intro xs
  induction xs with
  | nil => intro is vs ds m ρ _ _ _ _ _ e; cases e
  | cons y xs ih =>
    intro is vs ds m ρ h1 h2 h3 h4 q e
    cases is with
    | nil => cases h3
    | cons j is => cases q with
      | nil => cases h4
      | @cons v vs d ds a b =>
        rw [List.zip_cons_cons, List.lookup_cons] at e
        obtain ⟨n1, h1'⟩ := List.nodup_cons.mp h1
        obtain ⟨n2, h2'⟩ := List.nodup_cons.mp h2
        cases hx : x == y with
        | true =>
          rw [hx] at e
          cases e
          have ey := beq_iff_eq.mp hx
          subst ey
          show SlotRep cx F h ad i (updL _ xs vs x) (slotAt (setAll (ρ.set i (.val d)) is ds) i)
          rw [updL_off n1, setAll_off n2, slotAt_set, if_pos rfl, if_pos rfl]
          split
          · exact .val a
          · exact .unset
        | false =>
          rw [hx] at e
          show SlotRep cx F h ad i (updL _ xs vs x) (slotAt (setAll (ρ.set j (.val d)) is ds) i)
          exact ih h1' h2' (Nat.succ.inj h3) (Nat.succ.inj h4) b e
theorem mem_zip_keys {x : Str} {i : Nat} : ∀ {xs : List Str} {is : List Nat}, (xs.zip is).lookup x = some i → x ∈ xs ∧ i ∈ is
  | [], _, h => nomatch h
  | _ :: _, [], h => nomatch h
  | y :: xs, j :: is, h => by
    rw [List.zip_cons_cons, List.lookup_cons] at h
    cases hx : x == y with
    | true => rw [hx] at h; cases h; rw [beq_iff_eq.mp hx]; exact ⟨List.mem_cons_self, List.mem_cons_self⟩
    | false => rw [hx] at h; obtain ⟨a, b⟩ := mem_zip_keys h; exact ⟨List.mem_cons_of_mem _ a, List.mem_cons_of_mem _ b⟩
set_option genInjectivity false in
structure CompOK (ε : Sc) (scope : Scope) (xs : List Str) (is : List Nat) : Prop where
  kind : scope.kind = .function
  nocell : ∀ y ∈ scope.names, y.2 ≠ .cell
  names : ∀ y ∈ scope.names, y.2 = .local → scope.names.lookup y.1 = some .local
  xl : ∀ x ∈ xs, scope.names.lookup x = some .local
  free : ∀ y k, (y, k) ∈ scope.names → k = .free → (∃ j, ε.vars.lookup y = some j) ∧ ε.kinds.lookup y ≠ some .local
  apart : ∀ y j, ε.vars.lookup y = some j → j ∉ is
  xn : xs.Nodup
  isn : is.Nodup
  len : xs.length = is.length
theorem lookup_mem {β : Type} {x : Str} {b : β} : ∀ {l : List (Str × β)}, l.lookup x = some b → (x, b) ∈ l
  | [], h => nomatch h
  | (n, k) :: r, h => by
    rw [List.lookup_cons] at h
    cases hx : x == n with
    | true => rw [hx] at h; cases h; rw [beq_iff_eq.mp hx]; exact List.mem_cons_self
    | false => rw [hx] at h; exact List.mem_cons_of_mem _ (lookup_mem h)
section
variable {cx : XCx} {ε : Sc} {env : Env} {F : Addr → Prop} {h : Heap} {ρ : List Slot} {ad : Nat → Addr} {m cm : Str → Option Value}
theorem EnvOK.closure (e : EnvOK cx ε env F h ρ ad m cm) {scope : Scope} {xs : List Str} {is : List Nat} (c : CompOK ε scope xs is) :
    ∃ cl, closureFor scope env = pure cl ∧ (∀ n c, cl.lookup n = some c → env.cells.lookup n = some c) ∧ (∀ n, (n, NameKind.free) ∈ scope.names → (cl.lookup n).isSome) :=
  closure_ok fun n k hm hk => by
    obtain ⟨⟨j, hj⟩, hl⟩ := c.free n k hm hk
    rcases e.vars n j hj with ⟨h, _⟩ | ⟨_, h, _⟩
    · exact absurd h hl
    · exact h
theorem EnvOK.comp (e : EnvOK cx ε env F h ρ ad m cm) {scope : Scope} {xs : List Str} {is : List Nat} (c : CompOK ε scope xs is) {cl : List (Str × Addr)} (h1 : ∀ n c, cl.lookup n = some c → env.cells.lookup n = some c) (h2 : ∀ n, (n, NameKind.free) ∈ scope.names → (cl.lookup n).isSome)
    {C : Addr} (hC : ¬ cx.X C) {m₁ : Str → Option Value} {vs : List Value} {ds : List D} (hn : h.Ns C (updL m₁ xs vs)) (hd : ds.length = is.length) (hr : RepL cx.T F h vs ds) :
    EnvOK cx (compSc ε scope (xs.zip is)) (compEnvC scope cl C env) F h (setAll ρ is ds) ad (updL m₁ xs vs) cm := by
  refine ⟨c.kind, ?_, e.glob, e.blt, e.code, hC, fun n a ha => e.cxx n a (h1 n a ha), hn, fun n a ha => e.cells n a (h1 n a ha), fun y j hy => ?_⟩
  · show (relabel scope env).names = relab ε.kinds scope.names
    unfold relabel relab
    have ek : env.scope.kind = .function := e.kind
    have en : ∀ n, env.kindOf n = ε.kinds.lookup n := fun n => by unfold Env.kindOf; rw [e.names]
    simp only [ek, en, beq_self_eq_true, Bool.and_true]
  · have hy' : ((xs.zip is) ++ ε.vars.filter fun y => scope.names.lookup y.1 == some .free).lookup y = some j := hy
    rw [lookup_append] at hy'
    split at hy'
    · rename_i i ei
      cases hy'
      left
      exact ⟨relab_local (c.xl y (mem_zip_keys ei).1), target_slots c.xn c.isn c.len hd hr ei⟩
    · obtain ⟨hj, hp⟩ := lookup_filter_key (p := fun z => scope.names.lookup z == some .free) hy'
      have hf : scope.names.lookup y = some .free := by simpa using hp
      right
      have hm := lookup_mem hf
      have hl := (c.free y .free hm rfl).2
      rcases e.vars y j hj with ⟨h, _⟩ | ⟨_, _, q⟩
      · exact absurd h hl
      · refine ⟨relab_free hf, ?_, ?_⟩
        · exact Option.isSome_iff_exists.mp (h2 y hm)
        · rw [setAll_off (c.apart y j hj)]
          exact q
end
end Mine
end MpTx
section MpUx
open PySem PySem.Calls PyProof.Rows PySem.Builtin.Str
namespace Mine
section
variable {cx : XCx} {ε : Sc} {A : Around} {env : Env} {F F₀ : Addr → Prop} {s s₀ : Shared}
theorem Step.kept (ok : CxOk cx) (w₀ : Wd cx F₀ s₀) (x : Step cx F₀ s₀ F s) {wr : Addr → Prop} (hw : ∀ b, wr b → s₀.heap.get? b = none ∧ ¬ F b) {h' : Heap} (k : Nat)
    (hk : ∀ a o, ¬ wr a → s.heap.get? a = some o → h'.get? a = some o) : Step cx F₀ s₀ F { s with heap := h', toks := k } := by
  have nf : ∀ a, F a → ¬ wr a := fun a h hm => (hw a hm).2 h
  have nx : ∀ a, cx.X a → ¬ wr a := fun a h hm => by
    obtain ⟨o, e⟩ := w₀.xex a h
    rw [(hw a hm).1] at e; cases e
  have w := x.wd
  refine ⟨x.sub, x.new, fun a o e ax => hk a o (fun hm => ?_) (x.keep a o e ax), x.os, ⟨fun a o e ax => hk a o (nf a (w.f0 a o e ax)) (w.base a o e ax), ok.xi _ _ _ _ w.xi (fun _ h => h) (fun a o h e => hk a o (h.elim (nf a) (nx a)) e), w.gens, w.f0, fun a h => let ⟨o, e⟩ := w.lt a h; ⟨o, hk a o (nf a h) e⟩, w.nx, fun a h => let ⟨o, e⟩ := w.xex a h; ⟨o, hk a o (nx a h) e⟩⟩⟩
  rw [(hw a hm).1] at e; cases e
noncomputable def Tests (cx : XCx) (ε : Sc) (ifs : List Expr) (c : X) : Prop :=
  ∀ n cf A env F s ρ ad m cm, Here cx ε n cf A env F s ρ ad m cm → ∀ b, evT cf c ρ = some b → ∀ (Q : Bool → Shared → Prop) (E : Value → Shared → Prop), (∀ F' s', Step cx F s F' s' → Q b s') →
    wpAny (model cx.prog cx.w) A (forIn ifs true fun c r => if r = true then do let ok ← isTrue c env (eval c env); pure (ForInStep.yield ok) else pure (ForInStep.yield r)) Q E s
theorem tests_nil : Tests cx ε [] (.const (.bool true)) := by
  intro n cf A env F s ρ ad m cm H b hb Q E hQ
  have hb' : some true = some b := hb
  cases hb'
  rw [List.forIn_nil]
  exact wpAny_pure (hQ F s (Step.refl H.wd))
noncomputable def TargetC (cx : XCx) (tg : Expr) (xs : List Str) (bind : D → Option (List D)) : Prop :=
  ∀ (A : Around) (F : Addr → Prop) (s : Shared) (cenv : Env) (C : Addr) (m : Str → Option Value) (v : Value) (d : D) (ds : List D), CxOk cx → Wd cx F s → A.handled = none → cenv.locals = C → (∀ x ∈ xs, cenv.kindOf x = some .local) →
    (cenv.scope.kind == .class || (cenv.scope.kind == .module && cenv.locals != cenv.globals)) = false → s.heap.Ns C m → ¬ F C → Rep cx.T F s.heap v d → bind d = some ds → ∀ (Q : Unit → Shared → Prop) (E : Value → Shared → Prop),
    (∀ h' tk vs, (∀ a o, a ≠ C → s.heap.get? a = some o → h'.get? a = some o) → h'.Ns C (updL m xs vs) → RepL cx.T F h' vs ds → Q () { s with heap := h', toks := tk }) → wpAny (model cx.prog cx.w) A (assign tg cenv v) Q E s
noncomputable def one1 (d : D) : Option (List D) := some [d]
theorem targetC_name {x : Str} {p : Pos} : TargetC cx (.Name x p) [x] one1 := by
  intro A F s cenv C m v d ds ok w hh hC hk hp hn nf hv hb Q E hQ
  cases hb
  subst hC
  refine wpAny_assign_Name (wpAny_storeName_local (hk x List.mem_cons_self) hn (fun h' hn' sb => ?_) hp)
  have keep : ∀ a o, a ≠ cenv.locals → s.heap.get? a = some o → h'.get? a = some o := fun a o h e => (sb.2 a h).trans e
  exact hQ h' _ [v] keep hn' (.cons (hv.mono (fun _ h => h) fun a o f e => keep a o (fun e => nf (e ▸ f)) e) .nil)
end
end Mine
end MpUx
section MpVx
open PySem PySem.Calls PyProof.Rows PySem.Builtin.Str
namespace Mine
theorem compLoop_any {prog : Program} {w : World} {A : Around} {R : Result → Shared → Prop} {s : Shared} {elt target iter : Expr} {ifs : List Expr} {scope : Scope} {pos : Pos} {it acc : Value} {env : Env} (I : Nat → Shared → Prop)
    (turn : ∀ n s, I n s → wpAny (model prog w) A (pyNext it) (fun r s₁ => match r with
      | none => R (.ok .next) s₁
      | some v => wpAny (model prog w) A (letOwnedTupleGo target it v) (fun _ s₁' => wpAny (model prog w) A (assign target env v) (fun _ s₂ =>
          wpAny (model prog w) A (forIn ifs true fun c r => if r = true then do let ok ← isTrue c env (eval c env); pure (ForInStep.yield ok) else pure (ForInStep.yield r)) (fun ok s₃ =>
            if ok = true then wpAny (model prog w) A (eval elt env) (fun x s₄ =>
              wpAny (model prog w) A (call (.builtin "list.append") [acc, x]) (fun _ s₅ => ∃ m, m < n ∧ I m s₅) (notedBy (model prog w) A env fun e s' => R (.error e) s') s₄) (notedBy (model prog w) A env fun e s' => R (.error e) s') s₃
            else ∃ m, m < n ∧ I m s₃) (notedBy (model prog w) A env fun e s' => R (.error e) s') s₂) (notedBy (model prog w) A env fun e s' => R (.error e) s') s₁') (notedBy (model prog w) A env fun e s' => R (.error e) s') s₁) (notedBy (model prog w) A env fun e s' => R (.error e) s') s)
    (n : Nat) (h : I n s) :
    codeAny (model prog w) A (.compLoop (.ListComp elt [⟨target, iter, ifs, 0⟩] scope pos) 0 it acc env) R s := by
  refine codeAny_loop rfl I (fun n s hI => ?_) n h
  show wpAny _ A ((compTurn (.ListComp elt [⟨target, iter, ifs, 0⟩] scope pos) 0 it acc env).onRaise (fun x => do noteFrame x env; theTreesLotGoes x)) _ _ s
  refine wpAny_noted ?_
  rw [compTurn_list]
  refine wpAny_bind (wpAny_standAt (wpAny_bind (wpAny_mono (turn n s hI) (fun r s₁ h₁ => ?_) fun _ _ h' => h')))
  cases r with
  | none => exact wpAny_pure h₁
  | some v =>
    refine wpAny_bind (wpAny_mono h₁ (fun _ s₁' h₁' => ?_) fun _ _ h' => h')
    refine wpAny_bind (wpAny_mono h₁' (fun _ s₂ h₂ => wpAny_bind (wpAny_mono h₂ (fun ok s₃ h₃ => ?_) fun _ _ h' => h')) fun _ _ h' => h')
    cases ok with
    | false => exact wpAny_pure ⟨rfl, h₃⟩
    | true =>
      exact wpAny_bind (wpAny_bind (wpAny_mono h₃ (fun x s₄ h₄ => wpAny_bind (wpAny_mono h₄ (fun _ s₅ h₅ => wpAny_pure (wpAny_pure ⟨rfl, h₅⟩)) fun _ _ h' => h')) fun _ _ h' => h'))
noncomputable def turnC (cf : Nat → List D → Option D) (is : List Nat) (bind : D → Option (List D)) (c e : X) (ρ : List Slot) (d : D) : Option (Option D) :=
  match bind d with
  | some ds => turnD (ev cf c (setAll ρ is ds)) (ev cf e (setAll ρ is ds))
  | none => none
inductive CoreI (cx : XCx) (F : Addr → Prop) (s : Shared) (F1 : Addr → Prop) (h1 : Heap) (wr : List Addr) (Da C : Addr) (St : Nat → Heap → Prop) (items l : List D) (go : List D → Option (List D)) (k : Nat) (s' : Shared) : Prop
  | mk (j : Nat) (F' : Addr → Prop) (ys : List Value) (ds : List D) (kk : Nat) (m' : Str → Option Value) (hj : j ≤ items.length) (hk : k = items.length - j) (st : Step cx F s F' s') (hrep : ∀ v d, Rep cx.T F1 h1 v d → Rep cx.T F' s'.heap v d) (hF : ∀ a, F1 a → F' a) (hst : St j s'.heap)
    (hwr : ∀ b ∈ wr, ¬ F' b) (hnD : ¬ F' Da) (hnC : ¬ F' C) (hD : s'.heap.get? Da = some (lobj ys.toArray kk)) (hys : RepL cx.T F' s'.heap ys ds) (hyl : ys.length ≤ j) (hns : s'.heap.Ns C m') (rest : List D) (hgo : go (items.drop j) = some rest) (hrest : l = ds ++ rest)
set_option genInjectivity false in
structure CoreL (cx : XCx) (F1 : Addr → Prop) (h1 : Heap) (wr : List Addr) (Da C : Addr) (St : Nat → Heap → Prop) (j : Nat) (ys : List Value) (ds : List D) (kk : Nat) (m' : Str → Option Value) (F4 : Addr → Prop) (h4 : Heap) : Prop where
  p1 : ∀ v d, Rep cx.T F1 h1 v d → Rep cx.T F4 h4 v d
  p2 : ∀ a, F1 a → F4 a
  p3 : St j h4
  p4 : ∀ b ∈ wr, ¬ F4 b
  p5 : ¬ F4 Da
  p6 : ¬ F4 C
  p7 : h4.get? Da = some (lobj ys.toArray kk)
  p8 : RepL cx.T F4 h4 ys ds
  p9 : h4.Ns C m'
inductive CoreE (cf : Nat → List D → Option D) (e : X) (ρ : List Slot) (go : Option (List D)) (rest : List D) : Prop
  | mk (r : R) (y : D) (e1 : ev cf e ρ = some [r]) (e2 : r.fz = some y) (ys' : List D) (e4 : go = some ys') (e5 : rest = y :: ys')
section
variable {cx : XCx} {ε : Sc}
theorem comp_core {elt iter tg : Expr} {ifs : List Expr} {scope : Scope} {pos cpos : Pos} {xs : List Str} {is : List Nat} {bind : D → Option (List D)} {c e it : X}
    (hT : TargetC cx tg xs bind) (hb : ∀ d ds, bind d = some ds → ds.length = is.length) (hi : SoundI cx ε iter it) (ok : CompOK ε scope xs is) (hc : Tests cx (compSc ε scope (xs.zip is)) ifs c) (he : Sound cx (compSc ε scope (xs.zip is)) elt e)
    (hs : ∀ env x, foldedSetIterable iter env x = pure x)
    {n cf A env F s ρ ad m cm} (H : Here cx ε n cf A env F s ρ ad m cm) {items l : List D} (hit : evI cf it ρ = some items) (hl : compGo (turnC cf is bind c e ρ) items = some l)
    {use : Option (Value → Sem Unit)} {Q : Value → Shared → Prop} {E : Value → Shared → Prop}
    (hRR : ∀ Da C F' s' m', Step cx F s F' s' → RepR cx F' s.heap s'.heap (.ref Da) (.own l) → s'.heap.Ns C m' → s.heap.get? C = none → ¬ F' C → C ≠ Da → compPost (model cx.prog cx.w) A E use Q (.ref Da) C (.ok .next) s') :
    wpAny (model cx.prog cx.w) A (comprehension (.ListComp elt [⟨tg, iter, ifs, 0⟩] scope pos) scope env cpos (newList []) false (eval iter env) use) Q E s := by
  obtain ⟨cl, hclos, h1, h2⟩ := H.env.closure ok
  refine wpAny_comprehension_free rfl (hs env) hclos ok.kind ok.names (hi n cf A env F s ρ ad m cm H items hit _ _ fun I F1 s1 fp wr P St J => ?_)
  refine wpAny_newObj_type (wpAny_newFunctionEnv ok.nocell (by intro y hy; simp at hy) (fun h₁ hns₁ hsb₁ => ?_) ok.kind)
  dsimp only at hns₁ hsb₁ ⊢
  generalize hH2 : s1.heap.push { cls := .type "list", dict := none, data := .seq ([] : List Value).toArray } = H2 at hns₁ hsb₁ ⊢
  generalize hD : s1.heap.objs.size = Da
  generalize hCe : H2.objs.size = C at hns₁ hsb₁
  have hCD : C = Da + 1 := by rw [← hCe, ← hD, ← hH2, Heap.size_push]
  have hDC : C ≠ Da := by rw [hCD]; exact Nat.succ_ne_self Da
  have fr : ∀ a, Da ≤ a → s1.heap.get? a = none := fun a ha => by
    cases e : s1.heap.get? a with
    | none => rfl
    | some o' => exact absurd (hD ▸ Heap.lt_size e) (Nat.not_lt.mpr ha)
  have lt1 : ∀ b o, s1.heap.get? b = some o → b ≠ C ∧ b ≠ Da := fun b o e => ⟨Nat.ne_of_lt (by rw [hCD]; exact Nat.lt_succ_of_lt (hD ▸ Heap.lt_size e)), Nat.ne_of_lt (hD ▸ Heap.lt_size e)⟩
  have old : ∀ b o, s1.heap.get? b = some o → h₁.get? b = some o := fun b o e => hsb₁.extBut b o (lt1 b o e).1 (Heap.get?_push_of_some _ (hH2 ▸ Heap.get?_push_of_some _ e))
  have hacc : h₁.get? Da = some (lobj ([] : List Value).toArray 0) := hsb₁.extBut _ _ hDC.symm (Heap.get?_push_of_some _ (by rw [← hH2, ← hD]; exact Heap.get?_push_size _ rfl))
  have frD := fr Da (Nat.le_refl _)
  have frC := fr C (by rw [hCD]; exact Nat.le_succ Da)
  have xD : ¬ cx.X Da := J.st.wd.newNotX frD
  have xC : ¬ cx.X C := J.st.wd.newNotX frC
  have frD0 : s.heap.get? Da = none := J.st.fresh xD frD
  have frC0 : s.heap.get? C = none := J.st.fresh xC frC
  have st1 : Step cx F s F1 { s1 with heap := h₁, toks := s1.toks + ([] : List (Str × Value)).length } := J.st.trans (Step.grown H.ok J.st.wd _ old)
  have loop : ∀ s₃ : Shared, s₃ = { s1 with heap := h₁, toks := s1.toks + ([] : List (Str × Value)).length } →
      codeAny (model cx.prog cx.w) A (.compLoop (.ListComp elt [⟨tg, iter, ifs, 0⟩] scope pos) 0 (.ref I) (.ref Da) (compEnvC scope cl C env)) (compPost (model cx.prog cx.w) A E use Q (.ref Da) C) s₃ := by
    rintro s₃ rfl
    refine compLoop_any (CoreI cx F s F1 s1.heap wr Da C St items l (compGo (turnC cf is bind c e ρ))) (fun k s' hI => ?_) items.length
      ⟨0, F1, [], [], 0, _, Nat.zero_le _, rfl, st1, fun v d r => r.mono (fun _ h => h) fun a o _ e => old a o e, fun _ h => h, (J.W A H.bud.hd).frame _ _ _ J.s0 fun b _ o e => old b o e, fun b hb => (J.new b hb).2, J.st.wd.newNotF frD, J.st.wd.newNotF frC, hacc, .nil, Nat.le_refl _, hns₁, l, hl, rfl⟩
    obtain ⟨j, F', ys, ds, kk, m', hj, rfl, st', hrep, hF, hst, hwr, hnD, hnC, hD', hys, hyl, hns', rest, hgo, hrest⟩ := hI
    obtain ⟨o0, T0, gI, _, _⟩ := J.ty 0 _ J.s0
    have hwI : ∀ b ∈ wr, b ≠ C ∧ b ≠ Da := fun b hb => by rw [J.one b hb]; exact lt1 I _ gI
    have dC : C ∉ wr := fun h => (hwI C h).1 rfl
    have dD : Da ∉ wr := fun h => (hwI Da h).2 rfl
    have hwn : ∀ b, b ∈ wr → s.heap.get? b = none ∧ ¬ F' b := fun b hb => ⟨(J.new b hb).1, hwr b hb⟩
    have xwr : ∀ b ∈ wr, ¬ cx.X b := fun b hb h => by
      obtain ⟨o, e⟩ := H.wd.xex b h
      rw [(J.new b hb).1] at e; cases e
    rcases Nat.lt_or_ge j items.length with hlt | hge
    · refine (J.W A H.bud.hd).item j s' _ _ hlt hst fun v h' tk hP hst' hk => ?_
      have st2 := st'.kept H.ok H.wd (wr := (· ∈ wr)) hwn tk hk
      obtain ⟨d, hd, hr⟩ := J.item j v hP
      have hdrop : items.drop j = d :: items.drop (j + 1) := by
        have h1 : items[j]? = some items[j] := List.getElem?_eq_getElem hlt
        rw [h1] at hd
        cases hd
        exact List.drop_eq_getElem_cons hlt
      rw [hdrop] at hgo
      unfold compGo at hgo
      obtain ⟨ob, T, g1, g2, g3⟩ := J.ty _ _ hst'
      have keepF : ∀ a o, F' a → s'.heap.get? a = some o → h'.get? a = some o := fun a o f e => hk a o (fun hm => hwr a hm f) e
      have hr2 : ∀ v d, Rep cx.T F1 s1.heap v d → Rep cx.T F' h' v d := fun v d hr => (hrep v d hr).mono (fun _ h => h) keepF
      refine letGo_ok (s := { s' with heap := h', toks := tk }) g1 g2 g3 ?_
      have hnC' : h'.Ns C m' := hns'.at' fun o e => hk C o dC e
      have hbind : ∃ dv, bind d = some dv := by
        cases hq : bind d with
        | none => simp only [turnC, hq] at hgo; cases hgo
        | some dv => exact ⟨dv, rfl⟩
      obtain ⟨dv, hdv⟩ := hbind
      have htC : turnC cf is bind c e ρ d = turnD (ev cf c (setAll ρ is dv)) (ev cf e (setAll ρ is dv)) := by simp only [turnC, hdv]
      rw [htC] at hgo
      refine hT A F' { s' with heap := h', toks := tk } (compEnvC scope cl C env) C m' v d dv H.ok st2.wd H.bud.hd rfl (fun x hx => lookup_relabel_local (ok.xl x hx)) (by simp [compEnvC, relabel, ok.kind]) hnC' hnC (hr2 v d hr) hdv _ _ fun h3 tk3 vs3 hk3 hns3 hr3 => ?_
      have st3 : Step cx F s F' { s' with heap := h3, toks := tk3 } := st2.kept H.ok H.wd (wr := (· = C)) (fun b hb => by subst hb; exact ⟨frC0, hnC⟩) tk3 hk3
      have keep3 : ∀ a o, F' a → s'.heap.get? a = some o → h3.get? a = some o := fun a o f e => hk3 a o (fun e => hnC (e ▸ f)) (keepF a o f e)
      have H3 : Here cx (compSc ε scope (xs.zip is)) n cf A (compEnvC scope cl C env) F' { s' with heap := h3, toks := tk3 } (setAll ρ is dv) ad (updL m' xs vs3) cm :=
        ⟨H.ok, H.calls, H.bud, st3.wd, (H.step st3).env.comp ok h1 h2 xC hns3 (hb d dv hdv) hr3⟩
      have hst3 : St (j + 1) h3 := (J.W A H.bud.hd).frame _ _ _ hst' fun b hb o e => hk3 b o (by
        rcases J.deps b hb with h | h
        · exact (hwI b h).1
        · exact fun e => hnC (e ▸ hF b h)) e
      have hD3 : h3.get? Da = some (lobj ys.toArray kk) := hk3 Da _ hDC.symm (hk Da _ dD hD')
      have later : ∀ {F4 s4}, Step cx F' { s' with heap := h3, toks := tk3 } F4 s4 → CoreL cx F1 s1.heap wr Da C St (j + 1) ys ds kk (updL m' xs vs3) F4 s4.heap := by
        intro F4 s4 y
        have isC : ∃ o, h3.get? C = some o := by obtain ⟨o, _, _, e, _⟩ := hns3; exact ⟨o, e⟩
        obtain ⟨oC, eC⟩ := isC
        obtain ⟨ob3, T3, g13, _, _⟩ := J.ty _ _ hst3
        refine ⟨fun v d q => y.rep H3.wd ((hr2 v d q).mono (fun _ h => h) fun a o f e => hk3 a o (fun e => hnC (e ▸ f)) e), fun a h => y.sub a (hF a h), (J.W A H.bud.hd).frame _ _ _ hst3 fun b hb o e => ?_, fun b hb => ?_, y.notF hnD hD3, y.notF hnC eC, y.keep _ _ hD3 xD, y.repL H3.wd (hys.mono (fun _ h => h) keep3), hns3.at' fun o e => y.keep _ o e xC⟩
        · rcases J.deps b hb with h | h
          · exact y.keep b o e (xwr b h)
          · exact y.keep b o e (H3.wd.nx b (hF b h))
        · exact y.notF (hwr b hb) (by rw [J.one b hb]; exact g13)
      unfold turnD at hgo
      cases htr : truthR (ev cf c (setAll ρ is dv)) with
      | none => rw [htr] at hgo; cases hgo
      | some b =>
        rw [htr] at hgo
        refine hc n cf A _ F' _ _ ad _ cm H3 b htr _ _ fun F4 s4 st4 => ?_
        obtain ⟨p1, p2, p3, p4, p5, p6, p7, p8, p9⟩ := later st4
        cases b with
        | false =>
          rw [if_neg (by decide)]
          exact ⟨items.length - (j + 1), by omega, j + 1, F4, ys, ds, kk, _, hlt, rfl, st3.trans st4, p1, p2, p3, p4, p5, p6, p7, p8, by omega, p9, rest, hgo, hrest⟩
        | true =>
          rw [if_pos rfl]
          dsimp only at hgo
          have hev : CoreE cf e (setAll ρ is dv) (compGo (turnC cf is bind c e ρ) (items.drop (j + 1))) rest := by
            revert hgo
            split
            · intro h; cases h
            · intro h
              rename_i q
              split at q
              · rename_i r e1
                obtain ⟨y, e2, e3⟩ := Option.map_eq_some_iff.mp q
                cases e3
              · cases q
            · intro h
              rename_i y q
              split at q
              · rename_i r e1
                obtain ⟨y', e2, e3⟩ := Option.map_eq_some_iff.mp q
                cases e3
                split at h
                · rename_i ys' e4
                  cases h
                  exact ⟨r, y, e1, e2, ys', e4, rfl⟩
                · cases h
              · cases q
          obtain ⟨r, y, e1, e2, ys', e4, e5⟩ := hev
          have H4 := H3.step st4
          refine he.ev n cf A _ F4 s4 _ ad _ cm H4 r e1 _ _ fun v5 F5 s5 st5 q5 => ?_
          obtain ⟨F6, st6, _, r6⟩ := st5.fz H.ok st4.wd q5 e2
          obtain ⟨p1, p2, p3, p4, p5, p6, p7, p8, p9⟩ := later (st4.trans st6)
          have hlen : ys.length < lim := by have := J.lim; omega
          refine wpAny_list_append_plain ⟨kk, p7⟩ (fun h7 hl7 sb7 => ?_) (by rw [List.size_toArray]; exact sz_line (by omega))
          obtain ⟨k7, hl7⟩ := hl7
          have e7 : ys.toArray.push v5 = (ys ++ [v5]).toArray := by simp
          rw [e7] at hl7
          have st7 : Step cx F s F6 { s5 with heap := h7, toks := s5.toks } := (st3.trans (st4.trans st6)).kept H.ok H.wd (wr := (· = Da)) (fun b hb => by subst hb; exact ⟨frD0, p5⟩) s5.toks fun a o h e => (sb7.2 a h).trans e
          have keep7 : ∀ a o, F6 a → s5.heap.get? a = some o → h7.get? a = some o := fun a o f e => (sb7.2 a fun e => p5 (e ▸ f)).trans e
          refine ⟨items.length - (j + 1), by omega, j + 1, F6, ys ++ [v5], ds ++ [y], k7, _, hlt, rfl, st7, fun v d q => (p1 v d q).mono (fun _ h => h) keep7, p2, (J.W A H.bud.hd).frame _ _ _ p3 fun b hb o e => (sb7.2 b ?_).trans e, p4, p5, p6, hl7, (p8.append (.cons r6 .nil)).mono (fun _ h => h) keep7, by rw [List.length_append]; simp; omega, p9.sameBut sb7 hDC, ys', e4, by rw [hrest, e5]; simp⟩
          rcases J.deps b hb with h | h
          · exact (hwI b h).2
          · exact fun e => p5 (e ▸ p2 b h)
    · have ej : j = items.length := by omega
      subst ej
      rw [List.drop_length] at hgo
      cases hgo
      refine (J.W A H.bud.hd).done s' _ _ hst fun h' tk hk => ?_
      have st2 := st'.kept H.ok H.wd (wr := (· ∈ wr)) hwn tk hk
      have keepF : ∀ a o, F' a → s'.heap.get? a = some o → h'.get? a = some o := fun a o f e => hk a o (fun hm => hwr a hm f) e
      refine hRR Da C F' _ m' st2 ?_ (hns'.at' fun o e => hk C o dC e) frC0 hnC hDC
      rw [hrest, List.append_nil]
      exact .own frD0 hnD xD (hk Da _ dD hD') (by have := J.lim; omega) (hys.mono (fun _ h => h) keepF)
  exact codeAny_compStart_list (loop _ rfl) ((J.W A H.bud.hd).self 0 _ _ _ ((J.W A H.bud.hd).frame _ _ _ J.s0 fun b _ o e => old b o e) (loop _ rfl))
end
end Mine
end MpVx
section MpWx
open PySem PySem.Calls PyProof.Rows PySem.Builtin.Str
namespace Mine
section
variable {cx : XCx} {ε : Sc}
theorem comp_value {elt iter tg : Expr} {ifs : List Expr} {scope : Scope} {pos : Pos} {xs : List Str} {is : List Nat} {bind : D → Option (List D)} {c e it : X}
    (hT : TargetC cx tg xs bind) (hb : ∀ d ds, bind d = some ds → ds.length = is.length) (hi : SoundI cx ε iter it) (ok : CompOK ε scope xs is) (hc : Tests cx (compSc ε scope (xs.zip is)) ifs c) (he : Sound cx (compSc ε scope (xs.zip is)) elt e)
    (hs : ∀ env x, foldedSetIterable iter env x = pure x)
    {n cf A env F s ρ ad m cm} (H : Here cx ε n cf A env F s ρ ad m cm) {items l : List D} (hit : evI cf it ρ = some items) (hl : compGo (turnC cf is bind c e ρ) items = some l)
    {Q : Value → Shared → Prop} {E : Value → Shared → Prop} (hQ : Post cx F s (.own l) Q) :
    wpAny (model cx.prog cx.w) A (eval (.ListComp elt [⟨tg, iter, ifs, 0⟩] scope pos) env) Q E s := by
  rw [eval_ListComp]
  refine comp_core (use := none) hT hb hi ok hc he hs H hit hl fun Da C F' s' m' st q hn frC nC hne => ?_
  refine ⟨m', hn, fun h'' sb => ?_⟩
  have st2 : Step cx F s F' { s' with heap := h'' } := st.kept H.ok H.wd (wr := (· = C)) (fun b hb => by subst hb; exact ⟨frC, nC⟩) s'.toks fun a o h e => (sb.2 a h).trans e
  refine hQ _ F' _ st2 ?_
  cases q with
  | own lo nf nx g z q => exact .own lo nf nx ((sb.2 Da hne.symm).trans g) z (q.mono (fun _ h => h) fun a o f e => (sb.2 a fun e => nC (e ▸ f)).trans e)
theorem ev_comp {cf : Nat → List D → Option D} {i : Nat} {it c e : X} {ρ : List Slot} {r : R} (h : ev cf (.comp i it c e) ρ = some [r]) : ∃ items l, evI cf it ρ = some items ∧ compGo (turnC cf [i] one1 c e ρ) items = some l ∧ r = .own l := by
  replace h := (evq_comp _).symm.trans h
  split at h
  · rename_i items e1
    obtain ⟨l, e2, e3⟩ := Option.map_eq_some_iff.mp h
    cases e3
    refine ⟨items, l, by unfold evI; rw [e1], e2, rfl⟩
  · cases h
set_option genInjectivity false in
structure CompX (cx : XCx) (ε : Sc) (elt iter tg : Expr) (ifs : List Expr) (scope : Scope) (xs : List Str) (is : List Nat) (bind : D → Option (List D)) (it c e : X) : Prop where
  hT : TargetC cx tg xs bind
  hb : ∀ d ds, bind d = some ds → ds.length = is.length
  hi : SoundI cx ε iter it
  ok : CompOK ε scope xs is
  hc : Tests cx (compSc ε scope (xs.zip is)) ifs c
  he : Sound cx (compSc ε scope (xs.zip is)) elt e
  hs : ∀ env x, foldedSetIterable iter env x = pure x
theorem sound_comp {elt iter tg : Expr} {ifs : List Expr} {scope : Scope} {pos : Pos} {x : Str} {i : Nat} {it c e : X} (h : CompX cx ε elt iter tg ifs scope [x] [i] one1 it c e) :
    Sound cx ε (.ListComp elt [⟨tg, iter, ifs, 0⟩] scope pos) (.comp i it c e) := by
  refine Sound.ofE ?_ fun _ => rfl
  intro n cf A env F s ρ ad m cm H r hr Q E hQ
  obtain ⟨items, l, e1, e2, rfl⟩ := ev_comp hr
  exact comp_value h.hT h.hb h.hi h.ok h.hc h.he h.hs H e1 e2 hQ
theorem comp_used {elt iter tg : Expr} {ifs : List Expr} {scope : Scope} {pos spos py : Pos} {xs : List Str} {is : List Nat} {bind : D → Option (List D)} {c e it : X} {y : Str} {j : Nat} (h : CompX cx ε elt iter tg ifs scope xs is bind it c e)
    (hy : ε.vars.lookup y = some j) (hf : ε.kinds.lookup y ≠ some .free) (hs : ∀ env : Env, env.scope.kind = .function → env.scope.names = ε.kinds → swapsWith (.ListComp elt [⟨tg, iter, ifs, 0⟩] scope pos) (some (.Name y py)) spos.line env = pure true)
    {n cf A env F s ρ ad m cm} (H : HereS cx ε n cf A env F s ρ ad m cm) {items l : List D} (hit : evI cf it ρ = some items) (hl : compGo (turnC cf is bind c e ρ) items = some l)
    (own : Bool) (hna : own = true → noApp j ρ = true) {Q : Flow → Shared → Prop} {E : Value → Shared → Prop} (hQ : PostS cx ε env F s ρ ad (ρ.set j (if own then .own l else .val (.list l))) .next Q) :
    wpAny (model cx.prog cx.w) A (exec (.Assign [.Name y py] (.ListComp elt [⟨tg, iter, ifs, 0⟩] scope pos) spos) env) Q E s := by
  rw [exec_Assign_Name_used _ _ _ _ (hs env H.frm.en.kind H.frm.en.names)]
  refine wpAny_bind (wpAny_standAt (wpAny_bind ?_))
  show wpAny _ A (do let _ ← comprehension (.ListComp elt [⟨tg, iter, ifs, 0⟩] scope pos) scope env _ (newList []) false (eval iter env) (some (assign (.Name y py) env))) _ _ s
  refine wpAny_bind (comp_core (use := some (assign (.Name y py) env)) h.hT h.hb h.hi h.ok h.hc h.he h.hs H.here hit hl fun Da C F' s' m' st q hn frC nC hne => ?_)
  show wpAny _ A (assign (.Name y py) env (.ref Da)) _ _ _
  refine wpAny_assign_Name ?_
  have nm : ∀ {a}, s.heap.get? a = none → ¬ Mut env ρ ad a := fun e hm => by
    obtain ⟨o, e'⟩ := H.frm.isSome hm
    rw [e] at e'; cases e'
  cases q with
  | @own _ vs k _ lo nf nx g z q =>
  have fin : ∀ {F'' : Addr → Prop} {sl : Slot} {ad' : Nat → Addr} {s'' : Shared} {m'' cm'' : Str → Option Value}, sl = (if own then Slot.own l else .val (.list l)) → (∀ l', sl = .own l' → ad' j = Da) → (∀ i, i ≠ j → ad' i = ad i) → StepS cx env F s ρ ad F'' s'' (ρ.set j sl) ad' → Frm cx ε env F'' s'' (ρ.set j sl) ad' m'' cm'' → ¬ F'' C → s''.heap.Ns C m' →
      ∃ m, s''.heap.Ns C m ∧ ∀ h', Heap.SameBut C s''.heap h' → wpAny (model cx.prog cx.w) A (pure PUnit.unit) (fun _ s' => wpAny (model cx.prog cx.w) A (pure Flow.next) Q E s') E { s'' with heap := h' } := by
    intro F'' sl ad' s'' m'' cm'' hsl hDa had x f nF hn'
    refine ⟨m', hn', fun h' sb => wpAny_pure (wpAny_pure ?_)⟩
    have nM : ¬ Mut env (ρ.set j sl) ad' C := fun hm => by
      rcases hm with h | h | ⟨i, l', hi, rfl⟩
      · exact nm frC (.inl h)
      · exact nm frC (.inr (.inl h))
      · rw [slotAt_set] at hi
        by_cases e : i = j
        · subst e
          rw [if_pos rfl] at hi
          split at hi
          · exact hne (hDa l' hi)
          · cases hi
        · rw [if_neg e] at hi
          rw [had i e] at frC
          exact nm frC (.inr (.inr ⟨i, l', hi, rfl⟩))
    obtain ⟨x2, f2⟩ := x.kept H.ok H.wd f (wr := [C]) (fun b hb => by simp only [List.mem_cons, List.not_mem_nil, or_false] at hb; subst hb; exact ⟨frC, nF, nM⟩) (h' := h') s''.toks (fun a o hm e => (sb.2 a (by simpa using hm)).trans e)
    rw [hsl] at x2 f2
    exact hQ .next F'' _ ad' m'' cm'' x2 f2 .next
  cases own with
  | false =>
    have st2 := st.freeze H.ok H.wd lo g
    refine store_varK H st2 hy hf (sl := .val (.list l)) (ad' := ad) (fun _ _ => rfl) (.inl rfl) (fun h' hk => .val (.list (.inr rfl) (hk Da _ (.inl (.inr rfl)) g) z (q.mono (fun _ h => .inl h) fun a o f e => hk a o (.inl (.inl f)) e))) (fun _ e => nomatch e) fun s'' m'' cm'' hk x f => ?_
    exact fin (sl := .val (.list l)) (by rw [if_neg (by decide)]) (fun _ e => nomatch e) (fun _ _ => rfl) x f (fun h => h.elim nC hne) (hn.at' fun o e => hk C o (nm frC) e)
  | true =>
    refine store_varK H st hy hf (sl := .own l) (ad' := fun i => if i = j then Da else ad i) (fun i hi => if_neg hi) (.inr (noApp_ok (hna rfl))) (fun h' hk => ?_) (fun l' _ => ?_) fun s'' m'' cm'' hk x f => ?_
    · have : SlotRep cx F' h' (fun i => if i = j then Da else ad i) j (some (.ref ((fun i => if i = j then Da else ad i) j))) (.own l) := by
        refine .own (vs := vs) (n := k) ?_ ?_ ?_ z (q.mono (fun _ h => h) fun b o f e => hk b o (.inl f) e) <;> simp only [if_true]
        · exact nf
        · exact nx
        · exact hk Da _ (.inr (nm lo)) g
      simpa using this
    · simp only [if_true]
      exact ⟨lo, nf, nx, _, _, g⟩
    · exact fin (sl := .own l) (ad' := fun i => if i = j then Da else ad i) (by rw [if_pos rfl]) (fun _ _ => if_pos rfl) (fun i hi => if_neg hi) x f nC (hn.at' fun o e => hk C o (nm frC) e)
theorem ev1_own {cf : Nat → List D → Option D} {x : X} {ρ : List Slot} {d : D} (h : ev1 cf x ρ = some d) {P : List D → Prop} (hp : ∀ r, ev cf x ρ = some [r] → ∃ l, r = .own l ∧ P l) : ∃ l, d = .list l ∧ P l := by
  obtain ⟨r, e1, e2⟩ := ev1_inv h
  obtain ⟨l, rfl, p⟩ := hp r e1
  cases e2
  exact ⟨l, rfl, p⟩
theorem soundS_assignC {elt iter tg : Expr} {ifs : List Expr} {scope : Scope} {pos spos py : Pos} {x y : Str} {i j : Nat} {it c e : X} (h : CompX cx ε elt iter tg ifs scope [x] [i] one1 it c e)
    (hy : ε.vars.lookup y = some j) (hf : ε.kinds.lookup y ≠ some .free) (hs : ∀ env : Env, env.scope.kind = .function → env.scope.names = ε.kinds → swapsWith (.ListComp elt [⟨tg, iter, ifs, 0⟩] scope pos) (some (.Name y py)) spos.line env = pure true) :
    SoundS cx ε (.Assign [.Name y py] (.ListComp elt [⟨tg, iter, ifs, 0⟩] scope pos) spos) (.assign j (.comp i it c e)) := by
  intro n cf A env F s ρ ad m cm H ρ' o he Q E hQ
  replace he := (exq_assign cf).symm.trans he
  obtain ⟨d, hd, e'⟩ := Option.map_eq_some_iff.mp he
  cases e'
  obtain ⟨l, rfl, items, e1, e2⟩ := ev1_own (P := fun l => ∃ items, evI cf it ρ = some items ∧ compGo (turnC cf [i] one1 c e ρ) items = some l) hd fun r hr => by
    obtain ⟨items, l, e1, e2, e3⟩ := ev_comp hr
    exact ⟨l, e3, items, e1, e2⟩
  exact comp_used h hy hf hs H e1 e2 false (fun e => nomatch e) (by rw [if_neg (by decide)]; exact hQ)
end
end Mine
end MpWx
section MpXx
open PySem PySem.Calls PyProof.Rows PySem.Builtin.Str
namespace Mine
theorem bindL_off {kindOf : Str → Option NameKind} {x : Str} : ∀ {ps : List Str} {vs : List Value} {m : Str → Option Value}, x ∉ ps → bindL kindOf (ps.zip vs) m x = m x
  | [], _, _, _ => rfl
  | _ :: _, [], _, _ => rfl
  | n :: ps, v :: vs, m, h => by
    rw [List.zip_cons_cons]
    unfold bindL
    rw [bindL_off fun h' => h (List.mem_cons_of_mem _ h')]
    split
    · exact if_neg fun (e : x = n) => h (by rw [e]; exact List.mem_cons_self)
    · rfl
theorem bindL_at {kindOf : Str → Option NameKind} {x : Str} {v : Value} (hk : kindOf x = some .local) : ∀ {ps : List Str} {vs : List Value} {m : Str → Option Value} {k : Nat}, ps.Nodup → ps[k]? = some x → vs[k]? = some v → bindL kindOf (ps.zip vs) m x = some v
  | [], _, _, _, _, h, _ => nomatch h
  | _ :: _, [], _, _, _, _, h => nomatch h
  | n :: ps, v' :: vs, m, k, hn, h1, h2 => by
    obtain ⟨n1, hn'⟩ := List.nodup_cons.mp hn
    rw [List.zip_cons_cons]
    unfold bindL
    cases k with
    | zero =>
      simp only [List.getElem?_cons_zero, Option.some.injEq] at h1 h2
      subst h1; subst h2
      rw [bindL_off n1, if_pos hk]
      exact if_pos rfl
    | succ k =>
      simp only [List.getElem?_cons_succ] at h1 h2
      exact bindL_at hk hn' h1 h2
theorem bindC_off {kindOf : Str → Option NameKind} {x : Str} : ∀ {ps : List Str} {vs : List Value} {m : Str → Option Value}, x ∉ ps → bindC kindOf (ps.zip vs) m x = m x
  | [], _, _, _ => rfl
  | _ :: _, [], _, _ => rfl
  | n :: ps, v :: vs, m, h => by
    rw [List.zip_cons_cons]
    unfold bindC
    rw [bindC_off fun h' => h (List.mem_cons_of_mem _ h')]
    split
    · rfl
    · exact if_neg fun (e : x = n) => h (by rw [e]; exact List.mem_cons_self)
theorem bindC_at {kindOf : Str → Option NameKind} {x : Str} {v : Value} (hk : kindOf x ≠ some .local) : ∀ {ps : List Str} {vs : List Value} {m : Str → Option Value} {k : Nat}, ps.Nodup → ps[k]? = some x → vs[k]? = some v → bindC kindOf (ps.zip vs) m x = some v
  | [], _, _, _, _, h, _ => nomatch h
  | _ :: _, [], _, _, _, _, h => nomatch h
  | n :: ps, v' :: vs, m, k, hn, h1, h2 => by
    obtain ⟨n1, hn'⟩ := List.nodup_cons.mp hn
    rw [List.zip_cons_cons]
    unfold bindC
    cases k with
    | zero =>
      simp only [List.getElem?_cons_zero, Option.some.injEq] at h1 h2
      subst h1; subst h2
      rw [bindC_off n1, if_neg hk]
      exact if_pos rfl
    | succ k =>
      simp only [List.getElem?_cons_succ] at h1 h2
      exact bindC_at hk hn' h1 h2
theorem cellsFrom_has {x : Str} : ∀ {names : List (Str × NameKind)} {n : Nat} {acc : List (Str × Addr)}, (acc.lookup x).isSome ∨ (x, NameKind.cell) ∈ names → ((cellsFrom n names acc).lookup x).isSome
  | [], n, acc, h => by
    unfold cellsFrom
    rcases h with h | h
    · exact h
    · cases h
  | (y, k) :: r, n, acc, h => by
    unfold cellsFrom
    split
    · rename_i hk
      refine cellsFrom_has ?_
      rw [List.lookup_cons]
      cases hx : x == y with
      | true => exact .inl rfl
      | false =>
        rcases h with h | h
        · exact .inl h
        · rcases List.mem_cons.mp h with e | h
          · cases e; simp at hx
          · exact .inr h
    · rename_i hk
      refine cellsFrom_has (h.imp id fun h => ?_)
      rcases List.mem_cons.mp h with e | h
      · cases e; simp at hk
      · exact h
noncomputable def boundTo (fn : Fn) (args : List D) : Option (List D) :=
  if fn.va then (if fn.np ≤ args.length ∧ args.length ≤ lim then some (args.take fn.np ++ [.tup (args.drop fn.np)]) else none)
  else if args.length = fn.np then some args else none
noncomputable def BindOK (cx : XCx) (fd : FuncData) (fn : Fn) (ps : List Str) : Prop :=
  ∀ A F s vs args ds, CxOk cx → Wd cx F s → RepL cx.T F s.heap vs args → boundTo fn args = some ds → ∀ (Q : List (Str × Value) → Shared → Prop) (E : Value → Shared → Prop),
    (∀ F' s' vs', Step cx F s F' s' → RepL cx.T F' s'.heap vs' ds → Q (ps.zip vs') s') → wpAny (model cx.prog cx.w) A (bindArgs fd ⟨vs, []⟩) Q E s
set_option genInjectivity false in
structure FnIs (cx : XCx) (ε : Sc) (i : Nat) (fn : Fn) (fd : FuncData) (body : List Stmt) (ps : List Str) : Prop where
  obj : ∃ o, cx.h0.get? (cx.fa i) = some o ∧ o.data = .func fd
  nx : ¬ cx.X (cx.fa i)
  code : ∃ c, fd.code = .ref c ∧ ¬ cx.X c ∧ cx.h0.CodeRec (.ref c) fd.qualname
  body : fd.body = .stmts body
  codeAt : ∀ c q, ε.code = some (c, q) → fd.code = .ref c ∧ fd.qualname ++ ".<locals>." = q
  clo : fd.closure = []
  glob : fd.globals = mainGlobals
  blt : fd.builtins = builtinsNs
  co : fd.scope.isCoroutine = false
  gen : fd.scope.isGenerator = false
  kind : fd.scope.kind = .function
  names : fd.scope.names = ε.kinds
  bind : BindOK cx fd fn ps
  len : ∀ args ds, boundTo fn args = some ds → ds.length = ps.length
  nodup : ps.Nodup
  pv : ∀ (k : Nat) x, ps[k]? = some x → ε.vars.lookup x = some k
  vk : ∀ x j, ε.vars.lookup x = some j → ε.kinds.lookup x = some .local ∨ ε.kinds.lookup x = some .cell
  sc : ScOK ε
theorem bindD_bound {fn : Fn} {args : List D} {ρ : List Slot} (h : bindD fn args = some ρ) : ∃ ds k, boundTo fn args = some ds ∧ ρ = ds.map .val ++ List.replicate k .unset := by
  unfold bindD at h
  unfold boundTo
  split at h
  · split at h <;> cases h
    rename_i h1 h2
    rw [if_pos h1, if_pos h2]
    exact ⟨_, fn.ns - fn.np - 1, rfl, by simp⟩
  · split at h <;> cases h
    rename_i h1 h2
    rw [if_neg h1, if_pos h2]
    exact ⟨_, _, rfl, rfl⟩
theorem slotAt_start {ds : List D} {k j : Nat} : slotAt (ds.map .val ++ List.replicate k .unset) j = (match ds[j]? with | some d => .val d | none => .unset) := by
  unfold slotAt
  rw [List.getD_eq_getElem?_getD, List.getElem?_append]
  split
  · rename_i h
    rw [List.getElem?_map]
    rw [List.length_map] at h
    rw [List.getElem?_eq_getElem h]
    rfl
  · rename_i h
    rw [List.length_map] at h
    rw [List.getElem?_eq_none (Nat.le_of_not_lt h), List.getElem?_replicate]
    split <;> rfl
section
variable {cx : XCx}
theorem call_fn {ε : Sc} {i : Nat} {fn : Fn} {fd : FuncData} {body : List Stmt} {ps : List Str} (X : FnIs cx ε i fn fd body ps) (hs : SoundSs cx ε body fn.body) (ok : CxOk cx) {n : Nat} {cf : Nat → List D → Option D} (hc : CallOK cx n cf)
    {args : List D} {ρ ρ' : List Slot} {o : Out} {d : D} (hb : bindD fn args = some ρ) (he : ex cf fn.body ρ = some (ρ', o)) (hd : o = .ret d ∨ (o = .next ∧ d = .none))
    {A : Around} {F : Addr → Prop} {s : Shared} {vs : List Value} (bud : Bud (n + 1) A) (w : Wd cx F s) (q : RepL cx.T F s.heap vs args) {Rs : Result → Shared → Prop}
    (hR : ∀ v F' s', Step cx F s F' s' → Rep cx.T F' s'.heap v d → Rs (.ok (.ret v)) s') : codeAny (model cx.prog cx.w) A (.call (.ref (cx.fa i)) ⟨vs, []⟩) Rs s := by
  obtain ⟨ob, g, hfd⟩ := X.obj
  obtain ⟨c, hcode, ncx, hcd⟩ := X.code
  obtain ⟨ds, kk, hbd, rfl⟩ := bindD_bound hb
  have hroom : A.depth < recursionLimit := by have := bud.dp; show A.depth < 1000; omega
  refine codeAny_call_function hroom (w.base _ _ g X.nx) hfd X.co X.gen X.body (by rw [hcode]; exact hcd.at fun o e => w.base _ o e ncx) ?_
  refine X.bind A.in1 F s vs args ds ok w q hbd _ _ fun F₁ s₁ vs' st₁ q₁ => ?_
  rw [X.clo]
  have hlen : ds.length = ps.length := X.len _ _ hbd
  have hvl : vs'.length = ps.length := q₁.length.trans hlen
  have kindOf : ∀ x, (callEnvC fd s₁.heap.objs.size (cx.fa i)).kindOf x = ε.kinds.lookup x := fun x => by show fd.scope.names.lookup x = _; rw [X.names]
  have inps : ∀ x ∈ ps, ∃ k, ps[k]? = some x := fun x hx => by
    obtain ⟨k, hk, e⟩ := List.mem_iff_getElem.mp hx
    exact ⟨k, by rw [List.getElem?_eq_getElem hk, e]⟩
  have hkind : ∀ x ∈ ps.zip vs', fd.scope.names.lookup x.1 = some .local ∨ (fd.scope.names.lookup x.1 = some .cell ∧ ((cellsFrom (s₁.heap.objs.size + 1) fd.scope.names []).lookup x.1).isSome = true) := by
    intro x hx
    obtain ⟨k, hk⟩ := inps x.1 (List.of_mem_zip hx).1
    rw [X.names]
    rcases X.vk x.1 k (X.pv k x.1 hk) with h | h
    · exact .inl h
    · exact .inr ⟨h, cellsFrom_has (.inr (lookup_mem h))⟩
  refine wpAny_newFunctionEnv_cells X.kind hkind fun env hen s₂ ic => ?_
  have hen' : env = callEnvC fd s₁.heap.objs.size (cx.fa i) := hen
  subst hen'
  obtain ⟨h₂, tk₂, rfl⟩ := ic.toInCall.same
  have keep₂ := ic.toInCall.keep
  have st₂ : Step cx F₁ s₁ F₁ { s₁ with heap := h₂, toks := tk₂ } := Step.grown ok st₁.wd tk₂ keep₂
  have w₂ := st₂.wd
  refine ⟨w₂.lim ok, codeAny_func ?_⟩
  let E₀ : Env := callEnvC fd s₁.heap.objs.size (cx.fa i)
  let m₀ : Str → Option Value := bindL E₀.kindOf (ps.zip vs') fun _ => none
  let cm₀ : Str → Option Value := bindC E₀.kindOf (ps.zip vs') fun _ => none
  have frL : s₁.heap.get? s₁.heap.objs.size = none := fresh_size _
  have frC : ∀ n c, E₀.cells.lookup n = some c → s₁.heap.get? c = none ∧ c ≠ s₁.heap.objs.size := fun n c hc => by
    have hlt : s₁.heap.objs.size < c := ic.above n c (mem_of_lookup hc)
    refine ⟨?_, Nat.ne_of_gt hlt⟩
    cases e : s₁.heap.get? c with
    | none => rfl
    | some o => exact absurd (Heap.lt_size e) (Nat.not_lt.mpr (Nat.le_of_lt hlt))
  have noOwn : ∀ j l, slotAt (ds.map Slot.val ++ List.replicate kk .unset) j ≠ .own l := fun j l e => by
    rw [slotAt_start] at e
    split at e <;> cases e
  have fresh₀ : ∀ a, Mut E₀ (ds.map Slot.val ++ List.replicate kk .unset) (fun _ => 0) a → s₁.heap.get? a = none := fun a h => by
    rcases h with rfl | ⟨n, hn⟩ | ⟨j, l, hj, _⟩
    · exact frL
    · exact (frC n a hn).1
    · exact absurd hj (noOwn j l)
  have slots : ∀ x j, ε.vars.lookup x = some j → (ε.kinds.lookup x = some .local ∧ SlotRep cx F₁ h₂ (fun _ => 0) j (m₀ x) (slotAt (ds.map Slot.val ++ List.replicate kk .unset) j)) ∨
      ((ε.kinds.lookup x = some .cell ∨ ε.kinds.lookup x = some .free) ∧ (∃ c, E₀.cells.lookup x = some c) ∧ SlotRep cx F₁ h₂ (fun _ => 0) j (cm₀ x) (slotAt (ds.map Slot.val ++ List.replicate kk .unset) j)) := by
    intro x j hx
    have look : ∀ dj, ds[j]? = some dj → ps[j]? = some x ∧ ∃ v, vs'[j]? = some v ∧ Rep cx.T F₁ h₂ v dj := fun dj hj => by
      obtain ⟨v, hv, r⟩ := q₁.get hj
      have hlt : j < ps.length := by rw [← hlen]; exact (List.getElem?_eq_some_iff.mp hj).1
      have hp : ps[j]? = some ps[j] := List.getElem?_eq_getElem hlt
      have := X.sc.inj x ps[j] j hx (X.pv j _ hp)
      exact ⟨by rw [hp, this], v, hv, st₂.rep st₁.wd r⟩
    rw [slotAt_start]
    rcases X.vk x j hx with hk | hk
    · left
      refine ⟨hk, ?_⟩
      split
      · rename_i dj hj
        obtain ⟨hp, v, hv, r⟩ := look dj hj
        have : m₀ x = some v := bindL_at (by rw [kindOf]; exact hk) X.nodup hp hv
        rw [this]
        exact .val r
      · exact .unset
    · right
      refine ⟨.inl hk, ?_, ?_⟩
      · refine Option.isSome_iff_exists.mp (cellsFrom_has (.inr ?_))
        rw [X.names]
        exact lookup_mem hk
      · split
        · rename_i dj hj
          obtain ⟨hp, v, hv, r⟩ := look dj hj
          have : cm₀ x = some v := bindC_at (by rw [kindOf, hk]; intro e; cases e) X.nodup hp hv
          rw [this]
          exact .val r
        · exact .unset
  have fr : Frm cx ε E₀ F₁ { s₁ with heap := h₂, toks := tk₂ } (ds.map Slot.val ++ List.replicate kk .unset) (fun _ => 0) m₀ cm₀ := by
    refine ⟨⟨X.kind, X.names, X.glob, X.blt, X.codeAt, st₁.wd.newNotX frL, fun n c hc => st₁.wd.newNotX (frC n c hc).1, ic.toInCall.ns, ic.cell, slots⟩, st₁.wd.newNotF frL, fun n c hc => ⟨st₁.wd.newNotF (frC n c hc).1, (frC n c hc).2⟩, fun n n' c h h' => name_of_addr ic.apart (mem_of_lookup h) (mem_of_lookup h'), fun j _ l _ h => absurd h (noOwn j l), fun j l h => absurd h (noOwn j l)⟩
  have budE : BudE n (A.deeper E₀) := by
    obtain ⟨l, hl⟩ := bud.fs
    refine ⟨⟨bud.hd, by have := bud.dp; show A.depth + 1 + n < 890; omega, by have := bud.un; show A.units + 3 + 10 * n + 200 < 9900; omega, ⟨_, by show A.frames.map _ = _; rw [hl]; rfl⟩⟩, E₀, l, by show A.frames.map _ = _; rw [hl]; rfl, X.gen, X.co, X.blt, X.glob⟩
  refine hs n cf (A.deeper E₀) E₀ F₁ _ _ _ m₀ cm₀ ⟨ok, X.sc, hc, budE, w₂, fr⟩ ρ' o he _ _ fun f F' s' ad' m' cm' x fr' out => ?_
  have stF : Step cx F s F' s' := by
    refine st₁.trans ⟨fun a h => x.sub a h, fun a h => ?_, fun a o e nx => x.keep a o (keep₂ a o e) nx fun hm => ?_, x.os.trans rfl, x.wd⟩
    · rcases x.new a h with q | q | q
      · exact .inl q
      · right
        cases e : s₁.heap.get? a with
        | none => rfl
        | some o => rw [show ({ s₁ with heap := h₂, toks := tk₂ } : Shared).heap.get? a = some o from keep₂ a o e] at q; cases q
      · exact .inr (fresh₀ a q)
    · have := fresh₀ a hm
      rw [e] at this; cases this
  rcases hd with rfl | ⟨rfl, rfl⟩
  · cases out with
    | ret r => exact hR _ F' s' stF r
  · cases out
    exact hR _ F' s' stF .none
theorem calls_ok (ok : CxOk cx) {fns : Nat → Option Fn} (h : ∀ i fn, fns i = some fn → ∃ ε fd body ps, FnIs cx ε i fn fd body ps ∧ SoundSs cx ε body fn.body) : ∀ n, CallOK cx n (callF fns n)
  | 0 => fun f args d e => by unfold callF at e; cases e
  | n + 1 => fun f args d e => by
    unfold callF at e
    split at e
    · cases e
    · rename_i fn hf
      obtain ⟨ε, fd, body, ps, X, hs⟩ := h f fn hf
      obtain ⟨o, g, hfd⟩ := X.obj
      refine ⟨⟨o, fd, g, hfd, X.nx⟩, fun A F s vs bud w q Rs hR => ?_⟩
      split at e
      · cases e
      · rename_i ρ hb
        split at e
        · rename_i ρ' d' he
          cases e
          exact call_fn X hs ok (calls_ok ok h n) hb he (.inl rfl) bud w q hR
        · rename_i ρ' he
          cases e
          exact call_fn X hs ok (calls_ok ok h n) hb he (.inr ⟨rfl, rfl⟩) bud w q hR
        · cases e
end
end Mine
end MpXx
section MpYx
open PySem PySem.Calls PyProof.Rows PySem.Builtin.Str
namespace Mine
set_option genInjectivity false in
structure TabG (cx : XCx) where
  d : Addr
  f : Int → Option Value
  nx : ¬ cx.X d
  hm : cx.h0.MapOf (intKind cx.prog cx.w) d f
  sys : (d == sysModules) = false
  yes : ∀ c : Nat, c < 128 → special.contains c = true → ∃ u, f (c : Int) = some (.str ⟨#[92, c]⟩ u)
  no : ∀ c : Nat, c < 128 → special.contains c = false → f (c : Int) = none
section
variable {cx : XCx} {ε : Sc}
theorem sound_translate (G : TabG cx) {o : Expr} {y : X} {x : Str} {p apos pos : Pos} (hb : plainBase o = true) (hl : (apos.endLine == pos.line) = true) (h : Sound cx ε o y) (hk : ε.kinds.lookup x = some .globalImplicit) (hv : cx.mg x = some (.ref G.d)) (hd : (x == ("__debug__" : Str)) = false) :
    Sound cx ε (.Call (.Attribute o "translate" apos) [.Name x p] [] pos) (.op .translate (.cons y .nil)) := by
  refine Sound.ofE ?_ fun _ => rfl
  intro n cf A env F s ρ ad m cm H res he Q E hQ
  obtain ⟨rs, e1, e2⟩ := ev_op he
  obtain ⟨r0, rs', e3, e4, rfl⟩ := ev_cons e1
  cases ev_nil e4
  refine meth_run hb hl (by simp) rfl ?_
  refine h.ev n cf A env F s ρ ad m cm H r0 e3 _ _ fun v F' s' st q => ?_
  simp only [List.map_cons, List.map_nil] at e2; delta opF at e2; dsimp only at e2
  unfold opTranslate at e2
  split at e2
  · rename_i c ec
    split at e2 <;> cases e2
    rename_i hc
    have qb := q.brep
    have ec' : r0.ds = .str [c] := by
      have := ec
      simpa using this
    rw [ec'] at qb
    obtain ⟨t, rfl, pp, z⟩ := qb.str_inv
    have noref : ∀ a, Value.str ⟨[c].toArray⟩ t = .ref a → ∃ o, s'.heap.get? a = some o ∧ o.dict = none := fun _ e => nomatch e
    with_reducible refine GM.of (.str ⟨[c].toArray⟩ t) (typeIs_str _ _ _) PySem.F.slot_str_translate PySem.F.type_str_translate noref ?_
    have H1 := H.step st
    have hst : starred (.Name x p) = false := rfl
    rw [starEach_plain hst, backTo_plain]
    refine Calls.callWith_builtin rfl (Calls.evalArgs_plain (Calls.spliced_cons (load_global H1 hk hv hd (Calls.spliced_nil ?_))))
    show wpAny _ _ (call (.builtin "str.translate") [.str ⟨#[c]⟩ t, .ref G.d]) _ _ s'
    have hm : s'.heap.MapOf (intKind cx.prog cx.w) G.d G.f := let ⟨o, es, ep, g, r⟩ := G.hm; ⟨o, es, ep, st.wd.base _ _ g G.nx, r⟩
    cases hsp : special.contains c with
    | true =>
      obtain ⟨u, hu⟩ := G.yes c hc hsp
      refine call_meetsIn PySem.F.slot_str_translate (typeIs_str _ _ _) PySem.F.entry_str_translate (PySem.F.args_str_translate_2 _ _) (translate_hit (f := G.f) (x := c) (u := u) hc) ⟨⟨hm, hu⟩, fun k k' => ?_⟩
      rw [if_pos hsp] at hQ
      refine hQ _ F' _ (st.toks k') (.val (.str (l := [92, c]) k (fun c' h => ?_) (by simp [lim])))
      simp only [List.mem_cons, List.not_mem_nil, or_false] at h
      rcases h with rfl | rfl <;> omega
    | false =>
      refine call_meetsIn PySem.F.slot_str_translate (typeIs_str _ _ _) PySem.F.entry_str_translate (PySem.F.args_str_translate_2 _ _) (translate_miss (f := G.f) hc G.sys) ⟨⟨hm, G.no c hc hsp, H.bud.hd⟩, fun h' k k' hk' => ?_⟩
      rw [if_neg (by rw [hsp]; decide)] at hQ
      refine hQ _ F' _ (st.trans (Step.grown H.ok st.wd k' hk')) (.val (.str (l := [c]) k (fun c' h => ?_) (by simp [lim])))
      simp only [List.mem_cons, List.not_mem_nil, or_false] at h
      subst h; omega
  · cases e2
end
end Mine
end MpYx
section MpZ2x
open PySem PySem.Builtin.Str
namespace Mine
open PySem.Builtin PySem.Builtin.Re
section
variable {prog : Program} {w : World} {A A₀ : Around} {E : Value → Shared → Prop} {s : Shared} {P C : Addr} {codes : Array Value} {a : Array Nat} {u : Tok}
end
end Mine
end MpZ2x
section MpZ3x
open PySem PySem.Builtin.Str
namespace Mine
open PySem.Builtin PySem.Builtin.Re
section
variable {prog : Program} {w : World} {A A₀ : Around} {E : Value → Shared → Prop} {s : Shared} {P C : Addr} {codes : Array Value} {a : Array Nat} {u : Tok}
end
end Mine
end MpZ3x
section MpZ4x
open PySem PySem.Builtin.Str
namespace Mine
open PySem.Builtin PySem.Builtin.Re
section
variable {prog : Program} {w : World} {A A₀ : Around} {E : Value → Shared → Prop} {s : Shared} {P C : Addr} {codes : Array Value} {a : Array Nat} {u : Tok}
end
end Mine
end MpZ4x
section MpZ5x
open PySem PySem.Builtin.Str PySem.W PySem.Calls PyProof.Rows
namespace Mine
noncomputable def TabXF (c Pt : Addr) (qs : List (Pos × PySem.Str)) (F : Addr → Prop) (h : Heap) : Prop :=
  F c ∧ CodeHd h c Pt ∧ ∃ ps, h.get? Pt = some (tabObj ps) ∧ TriplesOk ps.toList ∧ ∀ pos q, (pos, q) ∈ qs → ∀ cv, codeAmong pos ps.toList = some cv → ∃ c', cv = .ref c' ∧ F c' ∧ h.CodeRec (.ref c') q
theorem TabXF.mono {c Pt : Addr} {qs : List (Pos × PySem.Str)} {F F' : Addr → Prop} {h h' : Heap} (x : TabXF c Pt qs F h) (hF : ∀ a, F a → F' a) (hk : ∀ a o, F a ∨ a = Pt → h.get? a = some o → h'.get? a = some o) : TabXF c Pt qs F' h' := by
  obtain ⟨fc, ⟨o, vs, file, tf, flags, tg, inF, text, tt, e, r⟩, ps, g, ht, hq⟩ := x
  refine ⟨hF _ fc, ⟨o, vs, file, tf, flags, tg, inF, text, tt, hk _ _ (.inl fc) e, r⟩, ps, hk _ _ (.inr rfl) g, ht, fun pos q hm cv hc => ?_⟩
  obtain ⟨c', e', f', rec⟩ := hq pos q hm cv hc
  exact ⟨c', e', hF _ f', rec.at fun o e => hk _ o (.inl f') e⟩
set_option genInjectivity false in
structure LamG (cx : XCx) where
  c : Addr
  Pt : Addr
  qs : List (Pos × PySem.Str)
  xf : cx.XF = TabXF c Pt qs
  xp : ∀ a, cx.X a ↔ a = Pt
  apart : qs.Pairwise fun a b => a.1.line ≠ b.1.line ∨ a.1.col ≠ b.1.col
  blt : cx.h0.BuiltinsAt cx.mg Pt
section
variable {cx : XCx} {ε : Sc}
end
end Mine
end MpZ5x
section MpZ6x
open PySem PySem.Builtin.Str PySem.W PySem.Calls PyProof.Rows
namespace Mine
section
variable {cx : XCx} {A : Around} {E : Value → Shared → Prop} {s : Shared} {Pa : Addr} {a : Array Nat} {u : Tok}
end
end Mine
end MpZ6x
section MpZ7x
open PySem PySem.Builtin.Str PySem.W PySem.Calls PyProof.Rows
namespace Mine
section
variable {cx : XCx} {A : Around} {E : Value → Shared → Prop} {s : Shared} {Pa : Addr} {a : Array Nat} {u : Tok}
end
end Mine
end MpZ7x
section MpZ8x
open PySem PySem.Builtin.Str PySem.W PySem.Calls PyProof.Rows
namespace Mine
open PySem.Builtin PySem.Builtin.Re
section
variable {prog : Program} {w : World} {A : Around} {s : Shared}
end
end Mine
end MpZ8x
section MpZ9x
open PySem PySem.Builtin.Str PySem.W PySem.Calls PyProof.Rows
namespace Mine
open PySem.Builtin PySem.Builtin.Re
section
variable {cx : XCx} {A : Around} {s : Shared}
end
end Mine
end MpZ9x
section MpZax
open PySem PySem.Builtin.Str PySem.W PySem.Calls PyProof.Rows
namespace Mine
set_option genInjectivity false in
structure PatG (cx : XCx) where
  P : Addr
  C : Addr
  codes : Array Value
  nP : ¬ cx.X P
  nC : ¬ cx.X C
  at0 : PatAt cx.h0 P C codes
theorem PatG.at {cx : XCx} (G : PatG cx) {F : Addr → Prop} {s : Shared} (w : Wd cx F s) : PatAt s.heap G.P G.C G.codes := by
  obtain ⟨⟨a, t, u, v, w', y, e, r⟩, ⟨n, ec⟩, is⟩ := G.at0
  exact ⟨⟨a, t, u, v, w', y, w.base _ _ e G.nP, r⟩, ⟨n, w.base _ _ ec G.nC⟩, is⟩
section
variable {cx : XCx} {ε : Sc}
end
end Mine
end MpZax
section MpZbx
open PySem PySem.Builtin.Str PySem.W PySem.Calls PyProof.Rows
namespace Mine
section
variable {M : Model} {A : Around} {E : Value → Shared → Prop} {s : Shared}
end
end Mine
end MpZbx
section MpZcx
open PySem PySem.Builtin.Str PySem.W PySem.Calls PyProof.Rows
namespace Mine
section
variable {cx : XCx} {A : Around} {E : Value → Shared → Prop} {s : Shared}
end
end Mine
end MpZcx
section MpZdx
open PySem PySem.Builtin.Str PySem.W PySem.Calls PyProof.Rows
namespace Mine
section
variable {cx : XCx} {A : Around} {E : Value → Shared → Prop} {s : Shared}
end
end Mine
end MpZdx
section MpZex
open PySem PySem.Builtin.Str PySem.W PySem.Calls PyProof.Rows
namespace Mine
end Mine
end MpZex
section MpZfx
open PySem PySem.Builtin.Str PySem.W PySem.Calls PyProof.Rows
namespace Mine
section
variable {cx : XCx} {ε : Sc}
end
end Mine
end MpZfx
section Elx
namespace Mine
end Mine
end Elx
section MpZgx
open PySem PySem.Builtin.Str PySem.W PySem.Calls PyProof.Rows
namespace Mine
theorem toStrs_eq : ∀ {l : List D} {ls : List (List Nat)}, toStrs l = some ls → l = ls.map .str
  | [], ls, e => by cases e; rfl
  | d :: r, ls, e => by
    cases d <;> simp only [toStrs] at e <;> try cases e
    obtain ⟨ls', e', rfl⟩ := Option.map_eq_some_iff.mp e
    rw [List.map_cons, ← toStrs_eq e']
section
variable {cx : XCx} {ε : Sc}
end
end Mine
end MpZgx
section MpZhx
open PySem PySem.Calls PyProof.Rows PySem.Builtin.Str
namespace Mine
section
variable {cx : XCx} {ε : Sc}
theorem sound_tyname {x : Str} {T : String} {pos : Pos} (hk : ε.kinds.lookup x = some .globalImplicit) (hg : cx.mg x = none) (hn : x ≠ "__name__") (hv : bootBuiltins x = some (.type T)) (hd : (x == ("__debug__" : Str)) = false) : Sound cx ε (.Name x pos) (.const (.ty T)) := by
  refine Sound.ofE ?_ fun _ => rfl
  intro n cf A env F s ρ ad m cm H r hr Q E hQ
  replace hr := (evq_const _).symm.trans hr
  cases hr
  exact load_builtin H hk hg hn hv hd (hQ _ F s (Step.refl H.wd) (.val (.ty T)))
noncomputable abbrev dead : S := .assert (.const (.bool false))
theorem ex_dead {cf : Nat → List D → Option D} {ρ : List Slot} : ex cf dead ρ = none := rfl
theorem soundSs_dead {sts : List Stmt} : SoundSs cx ε sts dead := by
  intro n cf A env F s ρ ad m cm H ρ' o h
  rw [ex_dead] at h; cases h
theorem str2_inv {f : PySem.Str → PySem.Str → R} : ∀ d ds r, opStr2 f (d :: ds) = some r → ∃ l, d = .str l := by
  intro d ds r h
  unfold opStr2 at h
  split at h
  · rename_i a b e; cases e; exact ⟨a, rfl⟩
  · cases h
section
variable {o : Expr} {apos pos : Pos} {es : List Expr} {xo x : X}
theorem m_rfind (hl : (apos.endLine == pos.line) = true) (hb : plainBase o = true) (hn : es.length < 30) (h0 : Sound cx ε o xo) (h : SoundL cx ε es x false) : Sound cx ε (.Call (.Attribute o "rfind" apos) es [] pos) (.op .rfind (.cons xo x)) :=
  sound_strMeth hb hl hn PySem.F.slot_str_rfind rfl h0 h (by intro d ds r h; delta opF at h; dsimp only at h; exact str2_inv d ds r h) op_rfind
theorem m_startswith (hl : (apos.endLine == pos.line) = true) (hb : plainBase o = true) (hn : es.length < 30) (h0 : Sound cx ε o xo) (h : SoundL cx ε es x false) : Sound cx ε (.Call (.Attribute o "startswith" apos) es [] pos) (.op .startswith (.cons xo x)) :=
  sound_strMeth hb hl hn PySem.F.slot_str_startswith rfl h0 h (by intro d ds r h; delta opF at h; dsimp only at h; exact str2_inv d ds r h) op_startswith
theorem m_endswith (hl : (apos.endLine == pos.line) = true) (hb : plainBase o = true) (hn : es.length < 30) (h0 : Sound cx ε o xo) (h : SoundL cx ε es x false) : Sound cx ε (.Call (.Attribute o "endswith" apos) es [] pos) (.op .endswith (.cons xo x)) :=
  sound_strMeth hb hl hn PySem.F.slot_str_endswith rfl h0 h (by intro d ds r h; delta opF at h; dsimp only at h; exact str2_inv d ds r h) op_endswith
theorem m_rstrip (hl : (apos.endLine == pos.line) = true) (hb : plainBase o = true) (hn : es.length < 30) (h0 : Sound cx ε o xo) (h : SoundL cx ε es x false) : Sound cx ε (.Call (.Attribute o "rstrip" apos) es [] pos) (.op .rstrip (.cons xo x)) :=
  sound_strMeth hb hl hn PySem.F.slot_str_rstrip rfl h0 h (by intro d ds r h; delta opF at h; dsimp only at h; exact str2_inv d ds r h) op_rstrip
theorem m_lstrip (hl : (apos.endLine == pos.line) = true) (hb : plainBase o = true) (hn : es.length < 30) (h0 : Sound cx ε o xo) (h : SoundL cx ε es x false) : Sound cx ε (.Call (.Attribute o "lstrip" apos) es [] pos) (.op .lstrip (.cons xo x)) :=
  sound_strMeth hb hl hn PySem.F.slot_str_lstrip rfl h0 h (by intro d ds r h; delta opF at h; dsimp only at h; exact str2_inv d ds r h) op_lstrip
theorem m_join (hl : (apos.endLine == pos.line) = true) (hb : plainBase o = true) (hn : es.length < 30) (h0 : Sound cx ε o xo) (h : SoundL cx ε es x false) : Sound cx ε (.Call (.Attribute o "join" apos) es [] pos) (.op .join (.cons xo x)) :=
  sound_strMeth hb hl hn PySem.F.slot_str_join rfl h0 h (by
    intro d ds r h
    delta opF at h; dsimp only at h
    unfold opJoin at h
    split at h
    · rename_i e; cases e; exact ⟨_, rfl⟩
    · cases h) op_join
theorem m_split (hl : (apos.endLine == pos.line) = true) (hb : plainBase o = true) (hn : es.length < 30) (h0 : Sound cx ε o xo) (h : SoundL cx ε es x false) : Sound cx ε (.Call (.Attribute o "split" apos) es [] pos) (.op .split (.cons xo x)) :=
  sound_strMeth hb hl hn PySem.F.slot_str_split rfl h0 h (by
    intro d ds r h
    delta opF at h; dsimp only at h
    unfold opSplit at h
    split at h
    · rename_i e; cases e; exact ⟨_, rfl⟩
    · cases h) op_split
end
end
noncomputable def nthBody (p : Program) (n : Nat) : List Stmt := match p.main.body[n]? with
  | some (.FunctionDef _ _ b _ _ _ _ _ _ _) => b
  | _ => []
end Mine
end MpZhx
section MpZix
open PySem PySem.Calls PyProof.Rows PySem.Builtin.Str
namespace Mine
set_option genInjectivity false in
structure GN (cx : XCx) (fs : List (Str × Nat)) (bs : List Str) : Prop where
  f : ∀ x i, (x, i) ∈ fs → cx.mg x = some (.ref (cx.fa i))
  b : ∀ x, x ∈ bs → cx.mg x = none
theorem nfree {ks : List (Str × NameKind)} {x : Str} {k : NameKind} (h : ks.lookup x = some k) (hk : k ≠ .free := by decide) : ks.lookup x ≠ some .free := by
  rw [h]; intro e; cases e; exact hk rfl
theorem one_len {is : List Nat} (h : is.length = 1 := by rfl) : ∀ d ds, one1 d = some ds → ds.length = is.length := by
  intro d ds e; cases e; exact h.symm
noncomputable def compOKb (ε : Sc) (scope : Scope) (xs : List Str) (is : List Nat) : Bool :=
  (scope.kind == .function) && scope.names.all (fun y => y.2 != .cell) && scope.names.all (fun y => y.2 != .local || scope.names.lookup y.1 == some .local) && xs.all (fun x => scope.names.lookup x == some .local)
    && scope.names.all (fun y => y.2 != .free || ((ε.vars.lookup y.1).isSome && ε.kinds.lookup y.1 != some .local)) && ε.vars.all (fun y => !is.contains y.2) && decide xs.Nodup && decide is.Nodup && decide (xs.length = is.length)
theorem compOK_of {ε : Sc} {scope : Scope} {xs : List Str} {is : List Nat} (h : compOKb ε scope xs is = true) : CompOK ε scope xs is := by
  unfold compOKb at h
  simp only [Bool.and_eq_true, decide_eq_true_eq, List.all_eq_true, Bool.or_eq_true, bne_iff_ne, beq_iff_eq, Bool.not_eq_true', ne_eq] at h
  obtain ⟨⟨⟨⟨⟨⟨⟨⟨h1, h2⟩, h3⟩, h4⟩, h5⟩, h6⟩, h7⟩, h8⟩, h9⟩ := h
  refine ⟨h1, h2, fun y hy e => (h3 y hy).elim (fun q => absurd e q) id, h4, fun y k hy e => ?_, fun y j hj hm => ?_, h7, h8, h9⟩
  · rcases h5 (y, k) hy with q | ⟨q1, q2⟩
    · exact absurd e q
    · exact ⟨Option.isSome_iff_exists.mp q1, q2⟩
  · have := h6 (y, j) (lookup_mem hj)
    rw [List.contains_iff_mem.mpr hm] at this
    cases this
theorem pos_nm {x : Str} {p : Pos} : (Expr.Name x p).pos = p := rfl
theorem pos_lc {e : Expr} {g : List Comprehension} {c : Scope} {p : Pos} : (Expr.ListComp e g c p).pos = p := rfl
theorem pos_tu {l : List Expr} {k : Nat} {p : Pos} : (Expr.Tuple l k p).pos = p := rfl
theorem kindOf_ε {env : Env} {ks : List (Str × NameKind)} (h : env.scope.names = ks) (x : Str) : env.kindOf x = ks.lookup x := by unfold Env.kindOf; rw [h]
theorem swapC {ks : List (Str × NameKind)} {elt : Expr} {gens : List Comprehension} {scope : Scope} {pos py : Pos} {y : Str} {line : Nat} (hk : ks.lookup y = some .local) (hp : (py.line == pos.line) = true) (ha : (scope.names.any fun (n, k) => n == y && (k == .local || k == .cell)) = false) :
    ∀ env : Env, env.scope.kind = .function → env.scope.names = ks → swapsWith (.ListComp elt gens scope pos) (some (.Name y py)) line env = pure true := by
  intro env h1 h2
  unfold swapsWith
  have hb : (env.blockKind == .function) = true := by unfold Env.blockKind; rw [h1]; rfl
  simp only [kindOf_ε h2, hk, hb, pos_nm, pos_lc, hp, ha]
  rfl
theorem swapped2 {ks : List (Str × NameKind)} {x y : Str} {p p' pos' posv : Pos} {k kv : Nat} {v1 v2 : Expr} (hx : ks.lookup x = some .local) (hy : ks.lookup y = some .local) (hp : (p'.line == p.line) = true)
    (hs1 : starred v1 = false) (hs2 : starred v2 = false) (hd : ([x, y].eraseDups.length != 2) = false) (hf : [v1, v2].all (foldedForSure 8) = false) (hc : [v1, v2].all (constantsAlone 8) = false) :
    ∀ env : Env, env.scope.kind = .function → env.scope.names = ks → swappedStores [.Tuple [.Name x p, .Name y p'] k pos'] (.Tuple [v1, v2] kv posv) env = pure (some [x, y]) := by
  intro env h1 h2
  have hb : (env.blockKind != .function) = false := by unfold Env.blockKind; rw [h1]; rfl
  unfold swappedStores
  have hp0 : (p.line == p.line) = true := beq_self_eq_true _
  have el : ((some NameKind.local : Option NameKind) == some NameKind.local) = true := rfl
  have hst : ∀ v : Expr, starred v = false → (match v with | .Starred .. => true | _ => false) = false := fun v h => by
    cases v <;> first | rfl | cases h
  simp only [List.length_cons, List.length_nil, List.head?_cons, Option.map_some, Option.getD_some, pos_nm, pos_tu, List.filterMap_cons, List.filterMap_nil, kindOf_ε h2, hx, hy, hp, hp0, el, Bool.and_self, if_true, hb, hf, hc, Bool.or_false]
  simp only [Nat.zero_add, Nat.reduceAdd, hd]
  have h3 : ([v1, v2].any fun x => match x with | .Starred .. => true | _ => false) = false := by
    simp only [List.any_cons, List.any_nil, Bool.or_false, hst v1 hs1, hst v2 hs2]
  exact (if_neg Bool.false_ne_true).trans ((if_neg fun q => Bool.false_ne_true (h3.symm.trans q)).trans rfl)
end Mine
end MpZix
section MpZkx
open PySem PySem.Calls PyProof.Rows PySem.Builtin.Str PySem.W
namespace Mine
section
variable {cx : XCx}
theorem len1 {P : List Value → Prop} (h : ∀ a, P [a]) (vs : List Value) (e : vs.length = 1) : P vs := by
  obtain ⟨a, rfl⟩ := List.length_eq_one_iff.mp e
  exact h a
theorem len2 {P : List Value → Prop} (h : ∀ a b, P [a, b]) (vs : List Value) (e : vs.length = 2) : P vs := by
  cases vs with
  | nil => cases e
  | cons a t => exact len1 (P := fun t => P (a :: t)) (h a) t (Nat.succ.inj e)
theorem len3 {P : List Value → Prop} (h : ∀ a b c, P [a, b, c]) (vs : List Value) (e : vs.length = 3) : P vs := by
  cases vs with
  | nil => cases e
  | cons a t => exact len2 (P := fun t => P (a :: t)) (h a) t (Nat.succ.inj e)
theorem bindOK_plain {fd : FuncData} {fn : Fn} {ps : List Str} (hva : fn.va = false) (h : ∀ vs : List Value, vs.length = fn.np → bindArgs fd ⟨vs, []⟩ = pure (ps.zip vs)) : BindOK cx fd fn ps := by
  intro A F s vs args ds ok w q hb Q E hQ
  unfold boundTo at hb
  rw [hva] at hb
  simp only [Bool.false_eq_true, if_false] at hb
  split at hb <;> cases hb
  rename_i hl
  rw [h vs (q.length.trans hl)]
  exact wpAny_pure (hQ F s vs (Step.refl w) q)
theorem bindOK_dflt {fd : FuncData} {fn : Fn} {ps : List Str} {K : Frag} {T : Addr} {cls : Value} {items : Array Value} {n : Nat} (X : K.In cx.h0) (nx : ¬ cx.X T) (hva : fn.va = false)
    (hd : fd.defaults = .ref T) (ho : K.lookup T = some { cls := cls, data := .seq items n }) (h : ∀ vs : List Value, vs.length = fn.np → ∃ k, bindArgs fd ⟨vs, []⟩ = seqItems? fd.defaults >>= k ∧ k (some items) = pure (ps.zip vs)) : BindOK cx fd fn ps := by
  intro A F s vs args ds ok w q hb Q E hQ
  unfold boundTo at hb
  rw [hva] at hb
  simp only [Bool.false_eq_true, if_false] at hb
  split at hb <;> cases hb
  rename_i hl
  obtain ⟨k, h₁, h₂⟩ := h vs (q.length.trans hl)
  exact BindsTo.of_defaults (s := s) hd (w.base _ _ (X _ _ ho) nx) rfl h₁ h₂ _ _ _ _ (hQ F s vs (Step.refl w) q)
theorem bindOK_va {fd : FuncData} {fn : Fn} {x y : Str} (hva : fn.va = true) (hnp : fn.np = 1) (hbd : ∀ v r, bindArgs fd ⟨v :: r, []⟩ = (do let t ← newTuple r; pure [(x, v), (y, t)])) : BindOK cx fd fn [x, y] := by
  intro A F s vs args ds ok w q hb Q E hQ
  unfold boundTo at hb
  rw [hva, hnp] at hb
  simp only [if_true] at hb
  split at hb <;> cases hb
  rename_i hl
  cases q with
  | nil => simp at hl
  | @cons v vs d ds hv hvs =>
    rw [hbd]
    have hz : vs.length ≤ lim := by
      rw [hvs.length]
      have := hl.2
      rw [List.length_cons] at this
      omega
    refine wpAny_bind (wpAny_newTuple ?_ (sz_line hz))
    refine wpAny_pure ?_
    obtain ⟨F3, st3, r⟩ := push_tup ok w s.toks hz hvs
    exact hQ F3 _ [v, _] st3 (.cons (st3.rep w hv) (.cons r .nil))
end
noncomputable def fnOKb (ε : Sc) (fn : Fn) (ps : List Str) : Bool :=
  decide (ps.length = fn.np + (if fn.va then 1 else 0)) && decide ps.Nodup && (ps.zipIdx.all fun y => ε.vars.lookup y.1 == some y.2) && (ε.vars.all fun y => ε.kinds.lookup y.1 == some .local || ε.kinds.lookup y.1 == some .cell) && decide (ε.vars.map (·.2)).Nodup
theorem nodup_snd {l : List (Str × Nat)} (h : (l.map (·.2)).Nodup) {x y : Str} {i : Nat} (h1 : (x, i) ∈ l) (h2 : (y, i) ∈ l) : x = y := by
  induction l with
  | nil => cases h1
  | cons z r ih =>
    rw [List.map_cons] at h
    obtain ⟨n1, n2⟩ := List.nodup_cons.mp h
    rcases List.mem_cons.mp h1 with e1 | h1
    · rcases List.mem_cons.mp h2 with e2 | h2
      · rw [← e2] at e1; exact congrArg Prod.fst e1
      · exact (n1 (List.mem_map.mpr ⟨_, h2, by rw [← e1]⟩)).elim
    · rcases List.mem_cons.mp h2 with e2 | h2
      · exact (n1 (List.mem_map.mpr ⟨_, h1, by rw [← e2]⟩)).elim
      · exact ih n2 h1 h2
theorem FnIs.ofK {cx : XCx} {K : Frag} (X : K.In cx.h0) {ε : Sc} {i : Nat} {a : Addr} {fn : Fn} {body : List Stmt} {ps : List Str} {oc : Value} {od : Option Addr} {osl : Array (Option Value)} {name : Str} {params : Arguments} {scope : Scope} {dV kV doc pm ct : Value} {c : Addr} {an : Option Addr}
    (ha : cx.fa i = a) (nx : ¬ cx.X a) (ho : K.lookup a = some ⟨oc, od, .func (fnOf name name params body scope dV kV doc pm an (.ref c) ct), osl⟩) (hcd : codeIn K (.ref c) name = true) (ncx : ¬ cx.X c) (hc : ∀ c' q, ε.code = some (c', q) → (.ref c : Value) = .ref c' ∧ name ++ ".<locals>." = q)
    (hb : BindOK cx (fnOf name name params body scope dV kV doc pm an (.ref c) ct) fn ps) (names : scope.names = ε.kinds) (co : scope.isCoroutine = false) (gen : scope.isGenerator = false) (kind : scope.kind = .function) (h : fnOKb ε fn ps = true) :
    FnIs cx ε i fn (fnOf name name params body scope dV kV doc pm an (.ref c) ct) body ps := by
  unfold fnOKb at h
  simp only [Bool.and_eq_true, decide_eq_true_eq, List.all_eq_true, Bool.or_eq_true, beq_iff_eq] at h
  obtain ⟨⟨⟨⟨h1, h2⟩, h3⟩, h4⟩, h5⟩ := h
  refine ⟨⟨_, by rw [ha]; exact X _ _ ho, rfl⟩, by rw [ha]; exact nx, ⟨c, rfl, ncx, codeRec_of X hcd⟩, rfl, hc, rfl, rfl, rfl, co, gen, kind, names, hb, fun args ds e => ?_, h2, fun k x e => ?_, fun x j e => h4 (x, j) (lookup_mem e), ⟨fun x y i ex ey => nodup_snd h5 (lookup_mem ex) (lookup_mem ey)⟩⟩
  · unfold boundTo at e
    split at e
    · rename_i hva
      split at e <;> cases e
      rename_i hl
      rw [h1, if_pos hva, List.length_append, List.length_take, List.length_singleton, Nat.min_eq_left hl.1]
    · rename_i hva
      split at e <;> cases e
      rename_i hl
      rw [h1, if_neg hva, hl]; rfl
  · have : (x, k) ∈ ps.zipIdx := List.mem_zipIdx_iff_getElem?.mpr (by simpa using e)
    exact h3 _ this
noncomputable abbrev mkCx (prog : Program) (w : World) (h₁ : Heap) (c P : Addr) (qs : List (Pos × PySem.Str)) (mg mb : Str → Option Value) (fa : Nat → Addr) (T : Nat → Addr) : XCx :=
  { prog := prog, w := w, h0 := ghostOf h₁ [(c, P)], X := fun a => a = P, XI := fun _ => True, T := T, mg := mg, mb := mb, fa := fa, XF := TabXF c P qs }
section
variable {prog : Program} {w : World} {h₁ : Heap} {c P : Addr} {qs : List (Pos × PySem.Str)} {mg mb : Str → Option Value} {fa : Nat → Addr} {p : Program} {loose : List Str} {mean : ExcName → Option Value} {K : Frag}
theorem ghost_none (c : Addr) : (ghostOf h₁ [(c, P)]).get? P = none := hideAll_none _ (by simp)
theorem ghost_nP {a : Addr} {o : Obj} (e : (ghostOf h₁ [(c, P)]).get? a = some o) : a ≠ P := fun q => by rw [q, ghost_none c] at e; cases e
theorem ghost_of {a : Addr} {o : Obj} (e : (ghostOf h₁ [(c, P)]).get? a = some o) : h₁.get? a = some o := of_hideAll _ e
theorem ns_at {h : Heap} {a : Addr} {m : Str → Option Value} (x : h.Ns a m) : ∃ o, h.get? a = some o := let ⟨o, _, _, e, _⟩ := x; ⟨o, e⟩
theorem ghost_seer (hT : TabsAt [(c, P)] h₁) (N : h₁.NoSeer) : (ghostOf h₁ [(c, P)]).NoSeer where
  statics := let ⟨mc, a, b⟩ := N.statics; ⟨mc, ghost_ns hT a, b⟩
  mods := let ⟨mc, a, b⟩ := N.mods; ⟨mc, ghost_ns hT a, b⟩
  imp := let ⟨mc, a, b⟩ := N.imp; ⟨mc, ghost_ns hT a, b⟩
  main := let ⟨mg, bm, ob, a, b, c, d, e⟩ := N.main; ⟨mg, bm, ob, ghost_ns hT a, b, ghost_get hT c (fun q => by rw [q] at d; cases d), d, e⟩
theorem ns_none {K : Frag} {h : Heap} {a : Addr} {m : Str → Option Value} {n : Str} (X : K.In h) (G : h.Ns a m) (e : nsIn K a n = some none) : m n = none := by
  obtain ⟨o, es, ep, ho, hd, _, hf⟩ := G
  unfold nsIn at e
  split at e
  · rename_i c d es' n' sl q
    have := X _ _ q
    rw [ho] at this
    cases this
    cases hd
    split at e
    · cases e
    · rename_i he
      rw [← hf]
      unfold nsFind findBy
      rw [← Array.find?_toList, he]
      rfl
  · cases e
theorem cxOk_of (hT : TabsAt [(c, P)] h₁) (X : K.In (ghostOf h₁ [(c, P)])) (T1 : Top p loose mean mg mb h₁) (hi : importsNone p = true) (htree : prog.given.tree = none) (hnb : nsIn K cStatics sharingNotToldKey = some none) {T : Nat → Addr} (tinj : ∀ i j, T i = T j → i = j) :
    CxOk (mkCx prog w h₁ c P qs mg mb fa T) := by
  have nP : ∀ {a : Addr} {m : Str → Option Value}, (ghostOf h₁ [(c, P)]).Ns a m → ¬ a = P := fun x => let ⟨_, e⟩ := ns_at x; ghost_nP e
  have g := ghost_ns hT T1.g
  have b := ghost_ns hT T1.b
  obtain ⟨mc, s1, s2⟩ := T1.nolimit
  have s := ghost_ns hT s1
  exact ⟨fun F F' h h' x hF hk => x.mono hF hk, g, nP g, b, nP b, T1.builtins, ⟨mc, s, s2⟩, nP s, fun h hk => (ghost_seer hT (T1.seer hi)).keeps fun a o e => hk a o e (ghost_nP e), htree, ⟨mc, s, ns_none X s hnb⟩, tinj⟩
theorem wd_of (hT : TabsAt [(c, P)] h₁) {s : Shared} (hs : s.heap = h₁) (hg : s.gens = #[]) {T : Nat → Addr} : Wd (mkCx prog w h₁ c P qs mg mb fa T) (fun a => ∃ o, (ghostOf h₁ [(c, P)]).get? a = some o) s := by
  subst hs
  obtain ⟨hc, ht⟩ := hT _ List.mem_cons_self
  have C := (ghost_code hT).1
  refine ⟨fun a o e _ => ghost_of e, ⟨?_, hc, #[], ht, trivial, fun pos q _ cv e => by cases e⟩, by rw [hg]; intro g h; simp at h, fun a o e _ => ⟨o, e⟩, fun a ⟨o, e⟩ => ⟨o, ghost_of e⟩, fun a ⟨o, e⟩ => ghost_nP e, fun a e => by subst e; exact ⟨_, ht⟩⟩
  obtain ⟨o, _, _, _, _, _, _, _, _, e, _⟩ := C
  exact ⟨o, e⟩
noncomputable def lamG_of (hT : TabsAt [(c, P)] h₁) (T1 : Top p loose mean mg mb h₁) {T : Nat → Addr} (hq : qs.Pairwise fun a b => a.1.line ≠ b.1.line ∨ a.1.col ≠ b.1.col) : LamG (mkCx prog w h₁ c P qs mg mb fa T) :=
  { c := c, Pt := P, qs := qs, xf := rfl, xp := fun _ => Iff.rfl, apart := hq, blt := by
      obtain ⟨bm, ob, b1, b2, b3, b4, b5, b6⟩ := T1.bmain
      have gb : (ghostOf h₁ [(c, P)]).get? bm = some ob := ghost_get hT b3 fun q => by rw [q] at b4; cases b4
      refine ⟨bm, ob, b1, b2, fun e => ?_, ghost_nP gb, gb, b4, b5, b6⟩
      obtain ⟨o, es, ep, ho, hd, _⟩ := T1.g
      rw [e, ho] at b3
      cases b3
      rw [hd] at b6; cases b6 }
noncomputable def tabKeys (es : Array DictEntry) : Bool := es.toList.all fun e => match e.key with | .int k _ => e.hash == hashInt k | _ => false
noncomputable def tabVals (es : Array DictEntry) : Bool := (List.range 128).all fun c => match findBy Value.isInt es (c : Int) with
  | some (.str x _) => special.contains c && x == ⟨#[92, c]⟩
  | none => !special.contains c
  | _ => false
theorem tabG_of {cx : XCx} (X : K.In cx.h0) {d : Addr} {es : Array DictEntry} {n : Nat} (nx : ¬ cx.X d) (hl : K.lookup d = some ⟨.type "dict", none, .dict es n, #[]⟩) (sys : (d == sysModules) = false) (hk : tabKeys es = true) (hv : tabVals es = true) : ∃ G : TabG cx, G.d = d := by
  unfold tabKeys at hk
  rw [List.all_eq_true] at hk
  unfold tabVals at hv
  rw [List.all_eq_true] at hv
  refine ⟨{ d := d, f := fun k => findBy Value.isInt es k, nx := nx, hm := ⟨_, es, n, X _ _ hl, ⟨rfl, rfl, rfl⟩, rfl, fun e he => ?_, fun _ => rfl⟩, sys := sys, yes := fun c hc hs => ?_, no := fun c hc hs => ?_ }, rfl⟩
  · have := hk e (Array.mem_toList_iff.mpr he)
    split at this
    · rename_i k t e1
      exact ⟨k, by rw [e1]; simp [intKind, Value.isInt], (by simpa using this : e.hash = hashInt k)⟩
    · cases this
  · have := hv c (List.mem_range.mpr hc)
    split at this
    · rename_i x t e1
      simp only [Bool.and_eq_true, beq_iff_eq] at this
      exact ⟨t, by rw [e1, this.2]⟩
    · rw [hs] at this; cases this
    · cases this
  · have := hv c (List.mem_range.mpr hc)
    split at this
    · rw [hs] at this; cases this
    · assumption
    · cases this
end
end Mine
end MpZkx
section MpZlx
open PySem PySem.Calls PyProof.Rows PySem.Builtin.Str PySem.W
namespace Mine
section
variable {cx : XCx}
theorem call_open {ε : Sc} {i : Nat} {fn : Fn} {fd : FuncData} {body : List Stmt} {ps : List Str} (X : FnIs cx ε i fn fd body ps) (ok : CxOk cx) {n : Nat}
    {args : List D} {ρ : List Slot} (hb : bindD fn args = some ρ)
    {A : Around} {F : Addr → Prop} {s : Shared} {vs : List Value} (bud : Bud (n + 1) A) (w : Wd cx F s) (q : RepL cx.T F s.heap vs args) {Rs : Result → Shared → Prop}
    (k : ∀ (A' : Around) (env : Env) (F₁ : Addr → Prop) (s₂ : Shared) (m cm : Str → Option Value) (Q : Flow → Shared → Prop) (E : Value → Shared → Prop), BudE n A' → Wd cx F₁ s₂ → s₂.os = s.os → Frm cx ε env F₁ s₂ ρ (fun _ => 0) m cm → (∀ v s', Rs (.ok (.ret v)) s' → Q (.ret v) s') →
      wpAny (model cx.prog cx.w) A' (execs body env) Q E s₂) : codeAny (model cx.prog cx.w) A (.call (.ref (cx.fa i)) ⟨vs, []⟩) Rs s := by
  obtain ⟨ob, g, hfd⟩ := X.obj
  obtain ⟨c, hcode, ncx, hcd⟩ := X.code
  obtain ⟨ds, kk, hbd, rfl⟩ := bindD_bound hb
  have hroom : A.depth < recursionLimit := by have := bud.dp; show A.depth < 1000; omega
  refine codeAny_call_function hroom (w.base _ _ g X.nx) hfd X.co X.gen X.body (by rw [hcode]; exact hcd.at fun o e => w.base _ o e ncx) ?_
  refine X.bind A.in1 F s vs args ds ok w q hbd _ _ fun F₁ s₁ vs' st₁ q₁ => ?_
  rw [X.clo]
  have hlen : ds.length = ps.length := X.len _ _ hbd
  have hvl : vs'.length = ps.length := q₁.length.trans hlen
  have kindOf : ∀ x, (callEnvC fd s₁.heap.objs.size (cx.fa i)).kindOf x = ε.kinds.lookup x := fun x => by show fd.scope.names.lookup x = _; rw [X.names]
  have inps : ∀ x ∈ ps, ∃ k, ps[k]? = some x := fun x hx => by
    obtain ⟨k, hk, e⟩ := List.mem_iff_getElem.mp hx
    exact ⟨k, by rw [List.getElem?_eq_getElem hk, e]⟩
  have hkind : ∀ x ∈ ps.zip vs', fd.scope.names.lookup x.1 = some .local ∨ (fd.scope.names.lookup x.1 = some .cell ∧ ((cellsFrom (s₁.heap.objs.size + 1) fd.scope.names []).lookup x.1).isSome = true) := by
    intro x hx
    obtain ⟨k, hk⟩ := inps x.1 (List.of_mem_zip hx).1
    rw [X.names]
    rcases X.vk x.1 k (X.pv k x.1 hk) with h | h
    · exact .inl h
    · exact .inr ⟨h, cellsFrom_has (.inr (lookup_mem h))⟩
  refine wpAny_newFunctionEnv_cells X.kind hkind fun env hen s₂ ic => ?_
  have hen' : env = callEnvC fd s₁.heap.objs.size (cx.fa i) := hen
  subst hen'
  obtain ⟨h₂, tk₂, rfl⟩ := ic.toInCall.same
  have keep₂ := ic.toInCall.keep
  have st₂ : Step cx F₁ s₁ F₁ { s₁ with heap := h₂, toks := tk₂ } := Step.grown ok st₁.wd tk₂ keep₂
  have w₂ := st₂.wd
  refine ⟨w₂.lim ok, codeAny_func ?_⟩
  let E₀ : Env := callEnvC fd s₁.heap.objs.size (cx.fa i)
  let m₀ : Str → Option Value := bindL E₀.kindOf (ps.zip vs') fun _ => none
  let cm₀ : Str → Option Value := bindC E₀.kindOf (ps.zip vs') fun _ => none
  have frL : s₁.heap.get? s₁.heap.objs.size = none := fresh_size _
  have frC : ∀ n c, E₀.cells.lookup n = some c → s₁.heap.get? c = none ∧ c ≠ s₁.heap.objs.size := fun n c hc => by
    have hlt : s₁.heap.objs.size < c := ic.above n c (mem_of_lookup hc)
    refine ⟨?_, Nat.ne_of_gt hlt⟩
    cases e : s₁.heap.get? c with
    | none => rfl
    | some o => exact absurd (Heap.lt_size e) (Nat.not_lt.mpr (Nat.le_of_lt hlt))
  have noOwn : ∀ j l, slotAt (ds.map Slot.val ++ List.replicate kk .unset) j ≠ .own l := fun j l e => by
    rw [slotAt_start] at e
    split at e <;> cases e
  have fresh₀ : ∀ a, Mut E₀ (ds.map Slot.val ++ List.replicate kk .unset) (fun _ => 0) a → s₁.heap.get? a = none := fun a h => by
    rcases h with rfl | ⟨n, hn⟩ | ⟨j, l, hj, _⟩
    · exact frL
    · exact (frC n a hn).1
    · exact absurd hj (noOwn j l)
  have slots : ∀ x j, ε.vars.lookup x = some j → (ε.kinds.lookup x = some .local ∧ SlotRep cx F₁ h₂ (fun _ => 0) j (m₀ x) (slotAt (ds.map Slot.val ++ List.replicate kk .unset) j)) ∨
      ((ε.kinds.lookup x = some .cell ∨ ε.kinds.lookup x = some .free) ∧ (∃ c, E₀.cells.lookup x = some c) ∧ SlotRep cx F₁ h₂ (fun _ => 0) j (cm₀ x) (slotAt (ds.map Slot.val ++ List.replicate kk .unset) j)) := by
    intro x j hx
    have look : ∀ dj, ds[j]? = some dj → ps[j]? = some x ∧ ∃ v, vs'[j]? = some v ∧ Rep cx.T F₁ h₂ v dj := fun dj hj => by
      obtain ⟨v, hv, r⟩ := q₁.get hj
      have hlt : j < ps.length := by rw [← hlen]; exact (List.getElem?_eq_some_iff.mp hj).1
      have hp : ps[j]? = some ps[j] := List.getElem?_eq_getElem hlt
      have := X.sc.inj x ps[j] j hx (X.pv j _ hp)
      exact ⟨by rw [hp, this], v, hv, st₂.rep st₁.wd r⟩
    rw [slotAt_start]
    rcases X.vk x j hx with hk | hk
    · left
      refine ⟨hk, ?_⟩
      split
      · rename_i dj hj
        obtain ⟨hp, v, hv, r⟩ := look dj hj
        have : m₀ x = some v := bindL_at (by rw [kindOf]; exact hk) X.nodup hp hv
        rw [this]
        exact .val r
      · exact .unset
    · right
      refine ⟨.inl hk, ?_, ?_⟩
      · refine Option.isSome_iff_exists.mp (cellsFrom_has (.inr ?_))
        rw [X.names]
        exact lookup_mem hk
      · split
        · rename_i dj hj
          obtain ⟨hp, v, hv, r⟩ := look dj hj
          have : cm₀ x = some v := bindC_at (by rw [kindOf, hk]; intro e; cases e) X.nodup hp hv
          rw [this]
          exact .val r
        · exact .unset
  have fr : Frm cx ε E₀ F₁ { s₁ with heap := h₂, toks := tk₂ } (ds.map Slot.val ++ List.replicate kk .unset) (fun _ => 0) m₀ cm₀ := by
    refine ⟨⟨X.kind, X.names, X.glob, X.blt, X.codeAt, st₁.wd.newNotX frL, fun n c hc => st₁.wd.newNotX (frC n c hc).1, ic.toInCall.ns, ic.cell, slots⟩, st₁.wd.newNotF frL, fun n c hc => ⟨st₁.wd.newNotF (frC n c hc).1, (frC n c hc).2⟩, fun n n' c h h' => name_of_addr ic.apart (mem_of_lookup h) (mem_of_lookup h'), fun j _ l _ h => absurd h (noOwn j l), fun j l h => absurd h (noOwn j l)⟩
  have budE : BudE n (A.deeper E₀) := by
    obtain ⟨l, hl⟩ := bud.fs
    refine ⟨⟨bud.hd, by have := bud.dp; show A.depth + 1 + n < 890; omega, by have := bud.un; show A.units + 3 + 10 * n + 200 < 9900; omega, ⟨_, by show A.frames.map _ = _; rw [hl]; rfl⟩⟩, E₀, l, by show A.frames.map _ = _; rw [hl]; rfl, X.gen, X.co, X.blt, X.glob⟩
  exact k (A.deeper E₀) E₀ F₁ _ m₀ cm₀ _ _ budE w₂ (st₁.os) fr fun v s' h => h
end
end Mine
end MpZlx
section MpZmx
open PySem PySem.Calls PyProof.Rows PySem.Builtin.Str PySem.W
namespace Mine
theorem repInts {T T' : Nat → Addr} {F F' : Addr → Prop} {h : Heap} (hF : ∀ a, F a → F' a) {ns : List Int} : ∀ {vs : List Value}, RepL T F h vs (ns.map .int) → RepL T' F' h vs (ns.map .int) := by
  induction ns with
  | nil => intro vs q; cases q; exact .nil
  | cons i ns ih =>
    intro vs q
    cases q with
    | cons a r =>
      generalize hd : D.int i = d at a
      cases a <;> cases hd
      exact .cons (.int _ _) (ih r)
theorem repIntL {T T' : Nat → Addr} {F F' : Addr → Prop} {h : Heap} (hF : ∀ a, F a → F' a) {ns : List Int} {v : Value} (r : Rep T F h v (.list (ns.map .int))) : Rep T' F' h v (.list (ns.map .int)) := by
  cases r with
  | list f g z q => exact .list (hF _ f) g z (repInts hF q)
theorem Frm.retok {cx : XCx} {T' : Nat → Addr} {ε : Sc} {env : Env} {F : Addr → Prop} {s : Shared} {ρ ρ' : List Slot} {ad : Nat → Addr} {m cm : Str → Option Value} (ok : CxOk cx) (w : Wd cx F s) (f : Frm cx ε env F s ρ ad m cm)
    (h : ∀ j, (∃ k, slotAt ρ j = .own [.str (tokC k)] ∧ slotAt ρ' j = .val (.tok k) ∧ T' k = ad j) ∨ ((slotAt ρ j = .unset ∨ ∃ ns : List Int, slotAt ρ j = .val (.list (ns.map .int))) ∧ slotAt ρ' j = slotAt ρ j)) :
    Wd { cx with T := T' } (fun a => F a ∨ ∃ j l, slotAt ρ j = .own l ∧ a = ad j) s ∧ Frm { cx with T := T' } ε env (fun a => F a ∨ ∃ j l, slotAt ρ j = .own l ∧ a = ad j) s ρ' ad m cm := by
  have hsub : ∀ a, F a → (F a ∨ ∃ j l, slotAt ρ j = .own l ∧ a = ad j) := fun _ h => .inl h
  have noOwn : ∀ j l, slotAt ρ' j ≠ .own l := fun j l e => by
    rcases h j with ⟨k, _, e2, _⟩ | ⟨e1, e2⟩
    · rw [e2] at e; cases e
    · rw [e2] at e
      rcases e1 with e1 | ⟨ns, e1⟩ <;> rw [e1] at e <;> cases e
  have slots : ∀ j ov, SlotRep cx F s.heap ad j ov (slotAt ρ j) → SlotRep { cx with T := T' } (fun a => F a ∨ ∃ j l, slotAt ρ j = .own l ∧ a = ad j) s.heap ad j ov (slotAt ρ' j) := by
    intro j ov q
    rcases h j with ⟨k, e1, e2, e3⟩ | ⟨e1, e2⟩
    · rw [e2]
      generalize hsl : slotAt ρ j = sl at q
      rw [e1] at hsl
      subst hsl
      cases q with
      | own nf nx g z q =>
        cases q with
        | cons q1 q2 =>
          cases q2
          cases q1 with
          | str t p z' =>
            rw [← e3]
            exact .val (Rep.tok (T := T') (k := k) (.inr ⟨j, _, e1, e3⟩) (e3 ▸ g))
    · rw [e2]
      rcases e1 with e1 | ⟨ns, e1⟩
      · rw [e1]; exact .unset
      · rw [e1] at q ⊢
        cases q with
        | val q => exact .val (repIntL hsub q)
  refine ⟨⟨w.base, ok.xi _ _ _ _ w.xi hsub (fun _ _ _ e => e), w.gens, fun a o e nx => .inl (w.f0 a o e nx), fun a h => ?_, fun a h => ?_, w.xex⟩,
    ⟨⟨f.en.kind, f.en.names, f.en.glob, f.en.blt, f.en.code, f.en.lx, f.en.cxx, f.en.ns, f.en.cells, fun y j hy => (f.en.vars y j hy).imp (fun ⟨k, q⟩ => ⟨k, slots j _ q⟩) fun ⟨k, c, q⟩ => ⟨k, c, slots j _ q⟩⟩,
      fun h => ?_, fun n c hc => ⟨fun h => ?_, (f.cf n c hc).2⟩, f.cinj, fun i j l _ e => absurd e (noOwn i l), fun i l e => absurd e (noOwn i l)⟩⟩
  · rcases h with h | ⟨j, l, e, rfl⟩
    · exact w.lt a h
    · obtain ⟨_, _, ⟨vs, n, g⟩, _⟩ := f.own j l e
      exact ⟨_, g⟩
  · rcases h with h | ⟨j, l, e, rfl⟩
    · exact w.nx a h
    · exact (f.own j l e).2.1
  · rcases h with h | ⟨j, l, e, q⟩
    · exact f.lf h
    · exact (f.own j l e).2.2.2.1 q.symm
  · rcases h with h | ⟨j, l, e, q⟩
    · exact (f.cf n c hc).1 h
    · exact (f.own j l e).2.2.2.2 n (q ▸ hc)
noncomputable def tokA (a : Nat) (k : Nat) : Nat := if k = 0 then a else a + k
theorem tokA_inj (a : Nat) : ∀ i j, tokA a i = tokA a j → i = j := by
  intro i j e
  unfold tokA at e
  split at e <;> split at e <;> omega
noncomputable abbrev XCx.withT (cx : XCx) (T : Nat → Addr) : XCx := { cx with T := T }
noncomputable def PlainRho (ρ : List Slot) : Prop := ∀ j, slotAt ρ j = .unset ∨ ∃ ns : List Int, slotAt ρ j = .val (.list (ns.map .int))
noncomputable def Inj (T : Nat → Addr) : Prop := ∀ i j, T i = T j → i = j
noncomputable abbrev newTok (i : Nat) (k : Nat) : S := .assignO i (.list (.cons (.const (.str (tokC k))) .nil))
theorem ex_newTok {cf : Nat → List D → Option D} {i k : Nat} {ρ : List Slot} (h : noApp i ρ = true) : ex cf (newTok i k) ρ = some (ρ.set i (.own [.str (tokC k)]), .next) := by
  unfold newTok
  rw [exq_assignO, h, if_pos rfl]
  rfl
theorem law_run1 {cx : XCx} (hcx : ∀ T, Inj T → CxOk (cx.withT T)) {ε : Sc} {i i1 : Nat} {fn : Fn} {fd : FuncData} {st1 : Stmt} {rest : List Stmt} {ps : List Str} {sx : S} {n : Nat} {cf : Nat → List D → Option D} (X : ∀ T, FnIs (cx.withT T) ε i fn fd (st1 :: rest) ps)
    (hc : ∀ T, Inj T → CallOK (cx.withT T) n cf) (h1 : ∀ T, SoundS (cx.withT T) ε st1 (newTok i1 0)) (hs : ∀ T, Inj T → SoundSs (cx.withT T) ε rest sx)
    {ns : List Int} {ρ ρ' : List Slot} (hb : bindD fn [.list (ns.map .int)] = some ρ) (hp : PlainRho ρ) (hn : noApp i1 ρ = true) (hl : i1 < ρ.length)
    (he : ex cf sx (ρ.set i1 (.val (.tok 0))) = some (ρ', .ret (.bool true)))
    {A : Around} {F : Addr → Prop} {s : Shared} {v : Value} (bud : Bud (n + 1) A) (w : Wd cx F s) (q : Rep cx.T F s.heap v (.list (ns.map .int))) {Rs : Result → Shared → Prop}
    (hR : ∀ T F' s', Wd (cx.withT T) F' s' → s'.os = s.os → Rs (.ok (.ret (.bool true))) s') : codeAny (model cx.prog cx.w) A (.call (.ref (cx.fa i)) ⟨[v], []⟩) Rs s := by
  have inj0 : Inj (fun k : Nat => (k : Addr)) := fun i j e => e
  have ok0 := hcx _ inj0
  have w0 : Wd (cx.withT fun k : Nat => (k : Addr)) F s := ⟨w.base, w.xi, w.gens, w.f0, w.lt, w.nx, w.xex⟩
  refine call_open (cx := cx.withT fun k : Nat => (k : Addr)) (X fun k : Nat => (k : Addr)) ok0 hb bud w0 (.cons (repIntL (fun _ h => h) q) .nil) fun A' env F₁ s₂ m cm Q E budE w₂ os fr hQ => ?_
  refine wpAny_execs_cons ?_
  refine h1 (fun k : Nat => (k : Addr)) n cf A' env F₁ s₂ ρ _ m cm ⟨ok0, (X fun k : Nat => (k : Addr)).sc, hc _ inj0, budE, w₂, fr⟩ _ _ (ex_newTok hn) _ _ fun f F' s' ad' m' cm' x fr' out => ?_
  cases out
  let T1 : Nat → Addr := tokA (ad' i1)
  have inj1 : Inj T1 := tokA_inj _
  have hset : ∀ j, slotAt (ρ.set i1 (.own [.str (tokC 0)])) j = if j = i1 then .own [.str (tokC 0)] else slotAt ρ j := fun j => by rw [slotAt_set, if_pos hl]
  have hset' : ∀ j, slotAt (ρ.set i1 (.val (.tok 0))) j = if j = i1 then .val (.tok 0) else slotAt ρ j := fun j => by rw [slotAt_set, if_pos hl]
  obtain ⟨w1, f1⟩ := fr'.retok (T' := T1) (ρ' := ρ.set i1 (.val (.tok 0))) ok0 x.wd fun j => by
    rw [hset, hset']
    by_cases hj : j = i1
    · subst hj
      rw [if_pos rfl, if_pos rfl]
      exact .inl ⟨0, rfl, rfl, rfl⟩
    · rw [if_neg hj, if_neg hj]
      exact .inr ⟨hp j, rfl⟩
  refine hs T1 inj1 n cf A' env _ s' _ ad' m' cm' ⟨hcx _ inj1, (X T1).sc, hc _ inj1, budE, w1, f1⟩ ρ' _ he _ _ fun f F'' s'' ad'' m'' cm'' x' fr'' out' => ?_
  cases out' with
  | ret r =>
    cases r
    exact hQ _ _ (hR T1 F'' s'' x'.wd (x'.os.trans (x.os.trans os)))
end Mine
end MpZmx
section MpZnx
open PySem PySem.Calls PyProof.Rows PySem.Builtin.Str PySem.W
namespace Mine
theorem filter_lookup {β : Type} {p : Nat → Bool} {x : Nat} {j : β} : ∀ {l : List (Nat × β)}, (l.filter fun y => p y.1).lookup x = some j → l.lookup x = some j ∧ p x = true
  | [], e => by cases e
  | (y, b) :: r, e => by
    rw [List.filter_cons] at e
    split at e
    · rename_i hp
      rw [List.lookup_cons] at e ⊢
      cases hx : x == y with
      | true =>
        rw [hx] at e
        exact ⟨e, by rw [beq_iff_eq.mp hx]; exact hp⟩
      | false =>
        rw [hx] at e
        exact filter_lookup e
    · rename_i hp
      obtain ⟨h1, h2⟩ := filter_lookup e
      refine ⟨?_, h2⟩
      rw [List.lookup_cons]
      cases hx : x == y with
      | true => rw [beq_iff_eq.mp hx] at h2; exact absurd h2 hp
      | false => exact h1
noncomputable abbrev dropK (P : Addr) (K : Frag) : Frag := K.filter fun y => (fun a : Nat => a != P) y.1
theorem ghost_filter {K : Frag} {h₁ : Heap} {c P : Addr} (X : K.In h₁) : (dropK P K).In (ghostOf h₁ [(c, P)]) := fun a o e => by
  obtain ⟨h1, h2⟩ := filter_lookup (p := fun a : Nat => a != P) e
  exact hideAll_get _ (X a o h1) (by simpa using h2)
theorem gn_of {cx : XCx} {fs : List (Str × Nat)} {bs : List Str} (h1 : ∀ p ∈ fs, cx.mg p.1 = some (.ref (cx.fa p.2))) (h2 : ∀ x ∈ bs, cx.mg x = none) : GN cx fs bs := ⟨fun x i h => h1 (x, i) h, h2⟩
theorem ints_rep {T : Nat → Addr} {F : Addr → Prop} {h : Heap} : ∀ {vs : List Value} {ns : List Int}, IntsAre vs ns → RepL T F h vs (ns.map .int)
  | _, _, .nil => .nil
  | _, _, .cons n t r => .cons (.int n t) (ints_rep r)
theorem goodWG_of {prog : Program} {w : World} {c P : Addr} {qs : List (Pos × PySem.Str)} {mg mb : Str → Option Value} {fa : Nat → Addr} {T : Nat → Addr} {cw : ClaimW} {cl : Str → Option Addr} {mean : ExcName → Option Value} {args : List WData} {s₁ s' : Shared} {F' : Addr → Prop}
    (hT : TabsAt [(c, P)] s₁.heap) (hr : ∀ x, cw.raises args x = false) (hp : cw.post args (.bool true) args = true) (wd : Wd (mkCx prog w s₁.heap c P qs mg mb fa T) F' s') (os : s'.os = s₁.os) : GoodWG cw cl mean args s₁ (.ok (.ret (.bool true))) s' := by
  obtain ⟨hc, ht⟩ := hT _ List.mem_cons_self
  obtain ⟨_, _, ps, hP, _⟩ := wd.xi
  refine ⟨.inl ⟨.bool true, .bool true, [], rfl, hr, .bool true, hp, fun _ => ⟨List.nodup_nil, fun a h => nomatch h⟩⟩, ⟨fun b o e => ?_, fun b o e => ?_⟩, os, wd.gens⟩
  · by_cases hb : b = P
    · subst hb
      have e2 : o = tabObj #[] := Option.some.inj (e.symm.trans ht)
      subst e2
      exact .inr (.inl ⟨(hc.tab ht).isCodeTable, rfl, #[], ps, rfl, by rw [Array.empty_append]; exact hP⟩)
    · exact .inl (wd.base b o (ghost_ne e (by simpa using hb)) hb)
  · by_cases hb : b = P
    · subst hb
      exact ⟨_, hP⟩
    · exact ⟨o, wd.base b o (ghost_ne e (by simpa using hb)) hb⟩
end Mine
end MpZnx
section MqAx
open PySem PySem.Calls PyProof.Rows PySem.Builtin.Str PySem.SeqAt PySem.AutoSeq1 PySem.MeetsSeq PySem.MeetsSeq2 PySem.MeetsSeq3 PySem.SeqRoads2
namespace Mine
inductive StrVs : List Value → List (List Nat) → Prop
  | nil : StrVs [] []
  | cons {l : List Nat} {t : Tok} {vs : List Value} {ls : List (List Nat)} : StrVs vs ls → StrVs (.str ⟨l.toArray⟩ t :: vs) (l :: ls)
theorem drop_get {vs : List Value} {i : Nat} {v : Value} {r : List Value} (h : vs.drop i = v :: r) : vs.toArray[((i : Nat) : Int).toNat]? = some v ∧ vs.drop (i + 1) = r := by
  constructor
  · rw [Int.toNat_natCast, List.getElem?_toArray, ← Nat.add_zero i, ← List.getElem?_drop, h]; rfl
  · rw [← List.drop_drop, h]; rfl
theorem drop_none {vs : List Value} {i : Nat} (h : vs.drop i = []) : vs.toArray[((i : Nat) : Int).toNat]? = none := by
  rw [Int.toNat_natCast, List.getElem?_toArray, List.getElem?_eq_none_iff]
  exact List.drop_eq_nil_iff.mp h
theorem drop_size {vs : List Value} {i : Nat} {r : List Value} (h : vs.drop i = r) (hi : i ≤ vs.length) : vs.toArray.size = i + r.length := by
  have := congrArg List.length h
  rw [List.length_drop] at this
  rw [List.size_toArray]; omega
theorem eqb_str (A : Around) (s : Shared) (a b : List Nat) (t u : Tok) : EqAt A s (.str ⟨a.toArray⟩ t) (.str ⟨b.toArray⟩ u) (decide (a = b)) := by
  have h := EqAt.str_str (A := A) (s := s) ⟨a.toArray⟩ t ⟨b.toArray⟩ u
  have e : ((⟨a.toArray⟩ : PySem.Str) == ⟨b.toArray⟩) = decide (a = b) := by
    by_cases q : a = b
    · subst q; simp
    · rw [decide_eq_false q, beq_eq_false_iff_ne]
      intro h; exact q (by simpa using h)
  rwa [e] at h
section
variable {l b : Addr} {vs ws : List Value} {n n2 : Nat}
theorem lt_loop : ∀ (xs ys : List (List Nat)) (i : Nat), StrVs (vs.drop i) xs → StrVs (ws.drop i) ys → i ≤ vs.length → i ≤ ws.length → Meets (Builtin.«list.__eq__.loop» ⟨[.ref l, .ref b, rawInt i, rawInt 0], []⟩)
    (fun A R s => s.heap.get? l = some (lobj vs.toArray n) ∧ s.heap.get? b = some (lobj ws.toArray n2) ∧ R (.ok (.ret (.bool (ltSs xs ys)))) s) := by
  intro xs
  induction xs with
  | nil =>
    intro ys i q1 q2 l1 l2 prog w A R s h
    obtain ⟨hp, g, d, tk, os⟩ := s; obtain ⟨hl, hb, h⟩ := h
    generalize e1 : vs.drop i = r1 at q1
    generalize e2 : ws.drop i = r2 at q2
    cases q1
    have z1 := drop_size e1 l1
    have z2 := drop_size e2 l2
    wp_walk using wpAny_loadPart' hl, wpAny_loadPart' hb
    rw [drop_none e1]
    wp_walk using wpAny_loadPart' hl, wpAny_loadPart' hb
    show R (.ok (.ret (.bool (decide (vs.toArray.size < ws.toArray.size))))) _
    rw [z1, z2]
    cases q2 with
    | nil => rw [decide_eq_false (by simp)]; exact h
    | cons q2 => rw [decide_eq_true (by simp)]; exact h
  | cons x xs ih =>
    intro ys i q1 q2 l1 l2 prog w A R s h
    obtain ⟨hp, g, d, tk, os⟩ := s; obtain ⟨hl, hb, h⟩ := h
    generalize e1 : vs.drop i = r1 at q1
    generalize e2 : ws.drop i = r2 at q2
    cases q1 with | cons q1 =>
    have z1 := drop_size e1 l1
    have z2 := drop_size e2 l2
    obtain ⟨g1, e1'⟩ := drop_get e1
    cases q2 with
    | nil =>
      wp_walk using wpAny_loadPart' hl, wpAny_loadPart' hb
      rw [g1, drop_none e2]
      wp_walk using wpAny_loadPart' hl, wpAny_loadPart' hb
      show R (.ok (.ret (.bool (decide (vs.toArray.size < ws.toArray.size))))) _
      rw [z1, z2, decide_eq_false (by simp)]
      exact h
    | cons q2 =>
      obtain ⟨g2, e2'⟩ := drop_get e2
      wp_walk using wpAny_loadPart' hl, wpAny_loadPart' hb
      rw [g1, g2]
      refine wpAny_bind (eqb_str _ _ _ _ _ _ prog w _ _ ?_)
      have hc : ((i : Int) + 1) = ((i + 1 : Nat) : Int) := by push_cast; rfl
      unfold ltSs at h
      rename_i y _ _ _
      by_cases hxy : x = y
      · rw [if_pos hxy] at h
        rw [decide_eq_true hxy]
        wp_walk
        rw [hc]
        refine ⟨plainId_quiet plain_eq_loop _, codeAny_builtin entry_eq_loop ?_⟩
        rw [Around.under_plainId plain_eq_loop _]
        rw [List.length_cons, List.size_toArray] at z1 z2
        exact ih _ (i + 1) (e1' ▸ q1) (e2' ▸ q2) (by omega) (by omega) prog w A R _ ⟨hl, hb, h⟩
      · rw [if_neg hxy] at h
        rw [decide_eq_false hxy]
        wp_walk using wpAny_loadPart' hl, wpAny_loadPart' hb
        rw [g1, g2]
        refine wpAny_bind ?_
        exact P.lt_str (wpAny_pure h)
theorem gt_loop : ∀ (xs ys : List (List Nat)) (i : Nat), StrVs (vs.drop i) xs → StrVs (ws.drop i) ys → i ≤ vs.length → i ≤ ws.length → Meets (Builtin.«list.__eq__.loop» ⟨[.ref l, .ref b, rawInt i, rawInt 4], []⟩)
    (fun A R s => s.heap.get? l = some (lobj vs.toArray n) ∧ s.heap.get? b = some (lobj ws.toArray n2) ∧ R (.ok (.ret (.bool (ltSs ys xs)))) s) := by
  intro xs
  induction xs with
  | nil =>
    intro ys i q1 q2 l1 l2 prog w A R s h
    obtain ⟨hp, g, d, tk, os⟩ := s; obtain ⟨hl, hb, h⟩ := h
    generalize e1 : vs.drop i = r1 at q1
    generalize e2 : ws.drop i = r2 at q2
    cases q1
    have z1 := drop_size e1 l1
    have z2 := drop_size e2 l2
    wp_walk using wpAny_loadPart' hl, wpAny_loadPart' hb
    rw [drop_none e1]
    wp_walk using wpAny_loadPart' hl, wpAny_loadPart' hb
    show R (.ok (.ret (.bool (decide (vs.toArray.size > ws.toArray.size))))) _
    rw [z1, z2]
    cases q2 with
    | nil => rw [decide_eq_false (by simp)]; exact h
    | cons q2 => rw [decide_eq_false (by simp)]; exact h
  | cons x xs ih =>
    intro ys i q1 q2 l1 l2 prog w A R s h
    obtain ⟨hp, g, d, tk, os⟩ := s; obtain ⟨hl, hb, h⟩ := h
    generalize e1 : vs.drop i = r1 at q1
    generalize e2 : ws.drop i = r2 at q2
    cases q1 with | cons q1 =>
    have z1 := drop_size e1 l1
    have z2 := drop_size e2 l2
    obtain ⟨g1, e1'⟩ := drop_get e1
    cases q2 with
    | nil =>
      wp_walk using wpAny_loadPart' hl, wpAny_loadPart' hb
      rw [g1, drop_none e2]
      wp_walk using wpAny_loadPart' hl, wpAny_loadPart' hb
      show R (.ok (.ret (.bool (decide (vs.toArray.size > ws.toArray.size))))) _
      rw [z1, z2, decide_eq_true (by simp)]
      exact h
    | cons q2 =>
      obtain ⟨g2, e2'⟩ := drop_get e2
      wp_walk using wpAny_loadPart' hl, wpAny_loadPart' hb
      rw [g1, g2]
      refine wpAny_bind (eqb_str _ _ _ _ _ _ prog w _ _ ?_)
      have hc : ((i : Int) + 1) = ((i + 1 : Nat) : Int) := by push_cast; rfl
      unfold ltSs at h
      rename_i y _ _ _
      by_cases hxy : x = y
      · rw [if_pos (Eq.symm hxy)] at h
        rw [decide_eq_true hxy]
        wp_walk
        rw [hc]
        refine ⟨plainId_quiet plain_eq_loop _, codeAny_builtin entry_eq_loop ?_⟩
        rw [Around.under_plainId plain_eq_loop _]
        rw [List.length_cons, List.size_toArray] at z1 z2
        exact ih _ (i + 1) (e1' ▸ q1) (e2' ▸ q2) (by omega) (by omega) prog w A R _ ⟨hl, hb, h⟩
      · rw [if_neg (fun e => hxy (Eq.symm e))] at h
        rw [decide_eq_false hxy]
        wp_walk using wpAny_loadPart' hl, wpAny_loadPart' hb
        rw [g1, g2]
        refine wpAny_bind ?_
        exact P.gt_str (wpAny_pure h)
theorem list_lt : Meets (Builtin.«list.__lt__» ⟨[.ref l, .ref b], []⟩) (fun A R s => s.heap.get? l = some (lobj vs.toArray n) ∧ s.heap.get? b = some (lobj ws.toArray n2) ∧ ∃ xs ys, StrVs vs xs ∧ StrVs ws ys ∧ R (.ok (.ret (.bool (ltSs xs ys)))) s) := by
  intro prog w A R s h
  obtain ⟨hp, g, d, tk, os⟩ := s; obtain ⟨hl, hb, xs, ys, q1, q2, h⟩ := h
  have f3 := AutoSeq1.sub_list_list
  wp_walk using wpAny_loadPart' hl, wpAny_loadPart' hb
  refine ⟨plainId_quiet plain_eq_loop _, codeAny_builtin entry_eq_loop ?_⟩
  rw [Around.under_plainId plain_eq_loop _]
  exact lt_loop xs ys 0 q1 q2 (Nat.zero_le _) (Nat.zero_le _) prog w A R _ ⟨hl, hb, h⟩
theorem list_gt : Meets (Builtin.«list.__gt__» ⟨[.ref l, .ref b], []⟩) (fun A R s => s.heap.get? l = some (lobj vs.toArray n) ∧ s.heap.get? b = some (lobj ws.toArray n2) ∧ ∃ xs ys, StrVs vs xs ∧ StrVs ws ys ∧ R (.ok (.ret (.bool (ltSs ys xs)))) s) := by
  intro prog w A R s h
  obtain ⟨hp, g, d, tk, os⟩ := s; obtain ⟨hl, hb, xs, ys, q1, q2, h⟩ := h
  have f3 := AutoSeq1.sub_list_list
  wp_walk using wpAny_loadPart' hl, wpAny_loadPart' hb
  refine ⟨plainId_quiet plain_eq_loop _, codeAny_builtin entry_eq_loop ?_⟩
  rw [Around.under_plainId plain_eq_loop _]
  exact gt_loop xs ys 0 q1 q2 (Nat.zero_le _) (Nat.zero_le _) prog w A R _ ⟨hl, hb, h⟩
theorem rich_lt {prog : Program} {w : World} {A : Around} {E : Value → Shared → Prop} {s : Shared} {Q : Value → Shared → Prop} (hl : s.heap.get? l = some (lobj vs.toArray n)) (hb : s.heap.get? b = some (lobj ws.toArray n2)) {xs ys : List (List Nat)} (q1 : StrVs vs xs) (q2 : StrVs ws ys) (hu : A.units < cLine)
    (h : Q (.bool (ltSs xs ys)) s) : wpAny (model prog w) A (richCompare .Lt (.ref l) (.ref b)) Q E s :=
  richCompare_meets_room (T := "list") ⟨_, hl, rfl⟩ ⟨_, hb, rfl⟩ PySem.F.slot_list_lt PySem.F.entry_list_lt (PySem.F.args_list_lt_2 _ _) list_lt ⟨hl, hb, xs, ys, q1, q2, by simp, h⟩ hu
theorem rich_gt {prog : Program} {w : World} {A : Around} {E : Value → Shared → Prop} {s : Shared} {Q : Value → Shared → Prop} (hl : s.heap.get? l = some (lobj vs.toArray n)) (hb : s.heap.get? b = some (lobj ws.toArray n2)) {xs ys : List (List Nat)} (q1 : StrVs vs xs) (q2 : StrVs ws ys) (hu : A.units < cLine)
    (h : Q (.bool (ltSs ys xs)) s) : wpAny (model prog w) A (richCompare .Gt (.ref l) (.ref b)) Q E s :=
  richCompare_meets_room (T := "list") ⟨_, hl, rfl⟩ ⟨_, hb, rfl⟩ PySem.F.slot_list_gt PySem.F.entry_list_gt (PySem.F.args_list_gt_2 _ _) list_gt ⟨hl, hb, xs, ys, q1, q2, by simp, h⟩ hu
end
end Mine
end MqAx
section MqBx
open PySem PySem.Calls PyProof.Rows PySem.Builtin.Str
namespace Mine
theorem strVs_of {T : Nat → Addr} {F : Addr → Prop} {h : Heap} {l : List D} {ls : List (List Nat)} {vs : List Value} (e : toStrs l = some ls) (q : RepL T F h vs l) : StrVs vs ls := by
  have e' := toStrs_eq e
  subst e'
  clear e
  induction ls generalizing vs with
  | nil => cases q; exact .nil
  | cons x ls ih => cases q with | cons a b => cases a with | str t p z => exact .cons (ih b)
inductive LtInv : D → D → Bool → Prop
  | str (x y : List Nat) : LtInv (.str x) (.str y) (ltL x y)
  | list {la lb : List D} {x y : List (List Nat)} : toStrs la = some x → toStrs lb = some y → LtInv (.list la) (.list lb) (ltSs x y)
theorem ltD_inv {a b : D} {c : Bool} (e : ltD a b = some c) : LtInv a b c := by
  cases a <;> try (cases e; done)
  · cases b <;> try (cases e; done)
    cases e; exact .str _ _
  · cases b <;> try (cases e; done)
    rename_i la lb
    replace e : (match toStrs la, toStrs lb with | some x, some y => some (ltSs x y) | _, _ => none) = some c := e
    cases e1 : toStrs la with
    | none => rw [e1] at e; cases e
    | some x =>
    cases e2 : toStrs lb with
    | none => rw [e1, e2] at e; cases e
    | some y =>
    rw [e1, e2] at e
    cases e
    exact .list e1 e2
inductive BestInv (better : D → D → Option Bool) : List D → R → Prop
  | list {d : D} {r : List D} {res : D} : bestGo better d r = some res → BestInv better [.list (d :: r)] (.val res)
  | tup {d : D} {r : List D} {res : D} : bestGo better d r = some res → BestInv better [.tup (d :: r)] (.val res)
theorem best_inv {better : D → D → Option Bool} {ds : List D} {r : R} (e : opBest better ds = some r) : BestInv better ds r := by
  rcases ds with _ | ⟨a, t⟩
  · cases e
  cases a <;> try (cases e; done)
  all_goals
    rcases t with _ | ⟨_, _⟩
    · rename_i l
      rcases l with _ | ⟨d, l⟩
      · cases e
      obtain ⟨res, e1, e2⟩ := Option.map_eq_some_iff.mp (show (bestGo better d l).map R.val = some r from e)
      cases e2
      first | exact .list e1 | exact .tup e1
    · rename_i l _ _
      rcases l with _ | ⟨_, _⟩ <;> cases e
section
variable {cx : XCx} {F : Addr → Prop} {h0 : Heap} {prog : Program} {w : World} {A : Around} {E : Value → Shared → Prop} {s : Shared}
theorem rich_lt_ok {v u : Value} {a b : D} {c : Bool} (qa : Rep cx.T F h0 v a) (qb : Rep cx.T F h0 u b) (hk : ∀ a o, h0.get? a = some o → s.heap.get? a = some o) (hu : A.units < cLine) (e : ltD a b = some c) {Q : Value → Shared → Prop} (h : Q (.bool c) s) :
    wpAny (model prog w) A (richCompare .Lt v u) Q E s := by
  cases ltD_inv e with
  | str x y => cases qa with | str t p z => cases qb with | str t' p' z' => exact P.lt_str h
  | list e1 e2 => cases qa with | list f g z q => cases qb with | list f' g' z' q' => exact rich_lt (hk _ _ g) (hk _ _ g') (strVs_of e1 q) (strVs_of e2 q') hu h
theorem rich_gt_ok {v u : Value} {a b : D} {c : Bool} (qa : Rep cx.T F h0 v a) (qb : Rep cx.T F h0 u b) (hk : ∀ a o, h0.get? a = some o → s.heap.get? a = some o) (hu : A.units < cLine) (e : gtD a b = some c) {Q : Value → Shared → Prop} (h : Q (.bool c) s) :
    wpAny (model prog w) A (richCompare .Gt v u) Q E s := by
  cases ltD_inv (show ltD b a = some c from e) with
  | str x y => cases qa with | str t p z => cases qb with | str t' p' z' => exact P.gt_str h
  | list e1 e2 => cases qa with | list f g z q => cases qb with | list f' g' z' q' => exact rich_gt (hk _ _ g) (hk _ _ g') (strVs_of e2 q) (strVs_of e1 q') hu h
theorem min_loop {R : Result → Shared → Prop} {I S : Addr} {fp wr : List Addr} {P : Nat → Value → Prop} {St : Nat → Heap → Prop} {items : List D} (W : Walks prog w A.in1 I fp wr items.length P St) (hu : A.units + 1 < cLine) (hSf : S ∉ fp) (hw : ∀ b ∈ S :: wr, h0.get? b = none)
    (item : ∀ i v, P i v → ∃ d, items[i]? = some d ∧ Rep cx.T F h0 v d) {res : D} :
    ∀ (k j : Nat) (s : Shared) (vb : Value) (db : D) (c : Nat), items.length - j = k → j ≤ items.length → St j s.heap → (∀ a o, h0.get? a = some o → s.heap.get? a = some o) → Rep cx.T F h0 vb db → bestGo ltD db (items.drop j) = some res →
    s.heap.get? S = some { cls := .type "list", dict := none, data := .seq #[vb, vb] c, slots := #[] } →
    (∀ v h' tk, Rep cx.T F h0 v res → (∀ a o, h0.get? a = some o → h'.get? a = some o) → R (.ok (.ret v)) { s with heap := h', toks := tk }) →
    codeAny (model prog w) A (.builtin "min.loop" ⟨[.ref I, .none, .ref S], []⟩) R s := by
  have hSw : S ∉ wr := fun h => hSf (W.sub _ h)
  have hname : (toString "min" ++ toString ".loop" : String) = "min.loop" := by decide
  have notw : ∀ a o, h0.get? a = some o → a ∉ wr := fun a o e h => by rw [hw a (List.mem_cons_of_mem _ h)] at e; cases e
  have notS : ∀ a o, h0.get? a = some o → a ≠ S := fun a o e h => by rw [h, hw S List.mem_cons_self] at e; cases e
  intro k
  induction k with
  | zero =>
    intro j s vb db c hk hj hst hkp hvb hg hS hR
    have hin : j = items.length := by omega
    subst hin
    rw [List.drop_length] at hg
    cases hg
    refine codeAny_builtin PySem.F.entry_min_loop ?_
    rw [Around.under_plainId PySem.F.plain_min_loop _]
    show wpAny _ A.in1 (seqItems? (.ref S) >>= _) _ _ s
    refine wpAny_bind (wpAny_seqItems hS rfl ?_)
    show wpAny _ A.in1 (tryCatch (pyNext (.ref I)) _ >>= _) _ _ s
    refine wpAny_bind (wpAny_tryCatch (W.done s _ _ hst fun h' tk hk' => ?_))
    have hS' := hk' S _ hSw hS
    show wpAny _ A.in1 (updateSeq S (fun _ => #[]) >>= _) _ _ _
    refine wpAny_bind ?_
    refine wpAny_updateSeq hS' rfl (wpAny_bind (wpAny_letGo (wpAny_pure ?_)))
    exact hR vb _ tk hvb fun b o e => (Heap.get?_update_other _ _ (Ne.symm (notS b o e))).trans (hk' b o (notw b o e) (hkp b o e))
  | succ k ih =>
    intro j s vb db c hk hj hst hkp hvb hg hS hR
    have hlt : j < items.length := by omega
    rw [List.drop_eq_getElem_cons hlt] at hg
    refine codeAny_builtin PySem.F.entry_min_loop ?_
    rw [Around.under_plainId PySem.F.plain_min_loop _]
    show wpAny _ A.in1 (seqItems? (.ref S) >>= _) _ _ s
    refine wpAny_bind (wpAny_seqItems hS rfl ?_)
    show wpAny _ A.in1 (tryCatch (pyNext (.ref I)) _ >>= _) _ _ s
    refine wpAny_bind (wpAny_tryCatch (W.item j s _ _ hlt hst fun v h' tk hP hst' hk' => ?_))
    have hS' := hk' S _ hSw hS
    obtain ⟨d, hd, hv⟩ := item j v hP
    rw [List.getElem?_eq_getElem hlt] at hd
    cases hd
    unfold bestGo at hg
    have hkp' : ∀ a o, h0.get? a = some o → h'.get? a = some o := fun b o e => hk' b o (notw b o e) (hkp b o e)
    show wpAny _ A.in1 (tryCatch (holding [v, v] (richCompare .Lt v vb >>= _)) _ >>= _) _ _ _
    cases hb : ltD items[j] db with
    | none => rw [hb] at hg; cases hg
    | some b =>
    rw [hb] at hg
    refine wpAny_bind (wpAny_tryCatch (wpAny_holding (wpAny_bind (rich_lt_ok (s := { s with heap := h', toks := tk }) hv hvb hkp' hu hb ?_))))
    refine wpAny_bind (wpAny_holding (wpAny_truthy_bool ?_))
    refine wpAny_bind (wpAny_letGo (wpAny_pure ?_))
    cases b with
    | true =>
      simp only [if_true]
      refine wpAny_bind ?_
      refine wpAny_updateSeq hS' rfl (wpAny_bind (wpAny_letGo ?_))
      rw [hname]
      refine wpAny_pure ⟨plainId_quiet PySem.F.plain_min_loop _, ih (j + 1) _ v _ _ (by omega) hlt (W.frame _ _ _ hst' fun b hbf o e => ?_) (fun b o e => ?_) hv hg (Heap.get?_update_self _ hS' rfl)
        fun v' h'' tk'' hP' hk'' => ?_⟩
      · exact (Heap.get?_update_other _ _ (fun h : S = b => hSf (by rw [h]; exact hbf))).trans e
      · exact (Heap.get?_update_other _ _ (Ne.symm (notS b o e))).trans (hkp' b o e)
      · exact hR v' h'' tk'' hP' hk''
    | false =>
      simp only [Bool.false_eq_true, if_false]
      refine wpAny_bind (wpAny_letGo ?_)
      rw [hname]
      exact wpAny_pure ⟨plainId_quiet PySem.F.plain_min_loop _, ih (j + 1) _ vb db c (by omega) hlt hst' hkp' hvb hg hS' fun v' h'' tk'' hP' hk'' => hR v' h'' tk'' hP' hk''⟩
theorem call_min_ok {x : Value} {d : D} {r : List D} {res : D} {Q : Value → Shared → Prop} (hu : A.units + 2 < cLine) (hg : bestGo ltD d r = some res)
    (h : wpAny (model prog w) A.in1 (pyIter x) (fun it s₂ => ∃ I fp wr P St, it = .ref I ∧ Walks prog w A.in1 I fp wr (d :: r).length P St ∧ St 0 s₂.heap ∧ (∀ b ∈ fp, b < s₂.heap.objs.size) ∧ (∀ b ∈ wr, s.heap.get? b = none) ∧ (∀ a o, s.heap.get? a = some o → s₂.heap.get? a = some o) ∧
      (∀ i v, P i v → ∃ d', (d :: r)[i]? = some d' ∧ Rep cx.T F s.heap v d') ∧
      ∀ v h' tk, Rep cx.T F s.heap v res → (∀ b o, s.heap.get? b = some o → h'.get? b = some o) → Q v { s₂ with heap := h', toks := tk }) E s) :
    wpAny (model prog w) A (call (.builtin "min") [x]) Q E s := by
  have hname : (toString "min" ++ toString ".loop" : String) = "min.loop" := by decide
  refine call_function_tree PySem.F.kind_min PySem.F.plain_min PySem.F.entry_min (PySem.F.args_min1 _) ?_
  show wpAny _ A.in1 (Builtin.Builtins.bindParams "min" ["key", "default"] 0 ⟨[], []⟩ >>= _) _ _ s
  refine wpAny_bind (wpAny_of_eq (show Builtin.Builtins.bindParams "min" ["key", "default"] 0 ⟨[], []⟩ = pure [none, none] from rfl) ?_)
  refine wpAny_bind (wpAny_pure ?_)
  refine wpAny_bind (wpAny_mono h (fun it s₂ h₂ => ?_) fun _ _ e => e)
  obtain ⟨I, fp, wr, P, St, rfl, W, hst, hfp, hwr, hkp, item, hQ⟩ := h₂
  refine wpAny_bind (wpAny_newObj_type ?_)
  have hSf : s₂.heap.objs.size ∉ fp := fun hm => Nat.lt_irrefl _ (hfp _ hm)
  have hS0 : s.heap.get? s₂.heap.objs.size = none := by
    cases e : s.heap.get? s₂.heap.objs.size with
    | none => rfl
    | some o => exact absurd (Heap.lt_size (hkp _ _ e)) (Nat.lt_irrefl _)
  rw [hname]
  refine wpAny_pure ⟨plainId_quiet PySem.F.plain_min_loop _, ?_⟩
  have hSw : s₂.heap.objs.size ∉ wr := fun h => hSf (W.sub _ h)
  have hst1 := W.frame 0 _ (s₂.heap.push { cls := .type "list", data := .seq #[] 0 }) hst fun b _ o e => Heap.get?_push_of_some _ e
  refine codeAny_builtin PySem.F.entry_min_loop ?_
  rw [Around.under_plainId PySem.F.plain_min_loop _]
  show wpAny _ A.in1 (seqItems? (.ref s₂.heap.objs.size) >>= _) _ _ _
  refine wpAny_bind (wpAny_seqItems (Heap.get?_push_size _ rfl) rfl ?_)
  show wpAny _ A.in1 (tryCatch (pyNext (.ref I)) _ >>= _) _ _ _
  refine wpAny_bind (wpAny_tryCatch (W.item 0 _ _ _ (Nat.zero_lt_succ _) hst1 fun v h' tk hP hst' hk' => ?_))
  have hS' := hk' s₂.heap.objs.size _ hSw (Heap.get?_push_size _ rfl)
  obtain ⟨d', hd', hv⟩ := item 0 v hP
  cases hd'
  have notw : ∀ a o, s.heap.get? a = some o → a ∉ wr := fun a o e h => by rw [hwr a h] at e; cases e
  have notS : ∀ a o, s.heap.get? a = some o → a ≠ s₂.heap.objs.size := fun a o e h => by rw [h, hS0] at e; cases e
  show wpAny _ A.in1 (updateSeq s₂.heap.objs.size (fun _ => #[v, v]) >>= _) _ _ _
  refine wpAny_bind ?_
  refine wpAny_updateSeq hS' rfl ?_
  rw [hname]
  refine wpAny_pure ⟨plainId_quiet PySem.F.plain_min_loop _, min_loop (A := A) (cx := cx) (F := F) (h0 := s.heap) W (by omega) hSf (fun b hb => ?_) item (r.length) 1 _ v d _ (by simp) (by simp) (W.frame _ _ _ hst' fun b hbf o e => ?_) (fun b o e => ?_) hv (by simpa using hg) (Heap.get?_update_self _ hS' rfl) fun v' h'' tk'' hP' hk'' => ?_⟩
  · rcases List.mem_cons.mp hb with rfl | hb
    · exact hS0
    · exact hwr b hb
  · exact (Heap.get?_update_other _ _ (fun h : s₂.heap.objs.size = b => hSf (by rw [h]; exact hbf))).trans e
  · exact (Heap.get?_update_other _ _ (Ne.symm (notS b o e))).trans (hk' b o (notw b o e) (Heap.get?_push_of_some _ (hkp b o e)))
  · exact hQ v' h'' tk'' hP' hk''
theorem max_loop {R : Result → Shared → Prop} {I S : Addr} {fp wr : List Addr} {P : Nat → Value → Prop} {St : Nat → Heap → Prop} {items : List D} (W : Walks prog w A.in1 I fp wr items.length P St) (hu : A.units + 1 < cLine) (hSf : S ∉ fp) (hw : ∀ b ∈ S :: wr, h0.get? b = none)
    (item : ∀ i v, P i v → ∃ d, items[i]? = some d ∧ Rep cx.T F h0 v d) {res : D} :
    ∀ (k j : Nat) (s : Shared) (vb : Value) (db : D) (c : Nat), items.length - j = k → j ≤ items.length → St j s.heap → (∀ a o, h0.get? a = some o → s.heap.get? a = some o) → Rep cx.T F h0 vb db → bestGo gtD db (items.drop j) = some res →
    s.heap.get? S = some { cls := .type "list", dict := none, data := .seq #[vb, vb] c, slots := #[] } →
    (∀ v h' tk, Rep cx.T F h0 v res → (∀ a o, h0.get? a = some o → h'.get? a = some o) → R (.ok (.ret v)) { s with heap := h', toks := tk }) →
    codeAny (model prog w) A (.builtin "max.loop" ⟨[.ref I, .none, .ref S], []⟩) R s := by
  have hSw : S ∉ wr := fun h => hSf (W.sub _ h)
  have hname : (toString "max" ++ toString ".loop" : String) = "max.loop" := by decide
  have notw : ∀ a o, h0.get? a = some o → a ∉ wr := fun a o e h => by rw [hw a (List.mem_cons_of_mem _ h)] at e; cases e
  have notS : ∀ a o, h0.get? a = some o → a ≠ S := fun a o e h => by rw [h, hw S List.mem_cons_self] at e; cases e
  intro k
  induction k with
  | zero =>
    intro j s vb db c hk hj hst hkp hvb hg hS hR
    have hin : j = items.length := by omega
    subst hin
    rw [List.drop_length] at hg
    cases hg
    refine codeAny_builtin PySem.F.entry_max_loop ?_
    rw [Around.under_plainId PySem.F.plain_max_loop _]
    show wpAny _ A.in1 (seqItems? (.ref S) >>= _) _ _ s
    refine wpAny_bind (wpAny_seqItems hS rfl ?_)
    show wpAny _ A.in1 (tryCatch (pyNext (.ref I)) _ >>= _) _ _ s
    refine wpAny_bind (wpAny_tryCatch (W.done s _ _ hst fun h' tk hk' => ?_))
    have hS' := hk' S _ hSw hS
    show wpAny _ A.in1 (updateSeq S (fun _ => #[]) >>= _) _ _ _
    refine wpAny_bind ?_
    refine wpAny_updateSeq hS' rfl (wpAny_bind (wpAny_letGo (wpAny_pure ?_)))
    exact hR vb _ tk hvb fun b o e => (Heap.get?_update_other _ _ (Ne.symm (notS b o e))).trans (hk' b o (notw b o e) (hkp b o e))
  | succ k ih =>
    intro j s vb db c hk hj hst hkp hvb hg hS hR
    have hlt : j < items.length := by omega
    rw [List.drop_eq_getElem_cons hlt] at hg
    refine codeAny_builtin PySem.F.entry_max_loop ?_
    rw [Around.under_plainId PySem.F.plain_max_loop _]
    show wpAny _ A.in1 (seqItems? (.ref S) >>= _) _ _ s
    refine wpAny_bind (wpAny_seqItems hS rfl ?_)
    show wpAny _ A.in1 (tryCatch (pyNext (.ref I)) _ >>= _) _ _ s
    refine wpAny_bind (wpAny_tryCatch (W.item j s _ _ hlt hst fun v h' tk hP hst' hk' => ?_))
    have hS' := hk' S _ hSw hS
    obtain ⟨d, hd, hv⟩ := item j v hP
    rw [List.getElem?_eq_getElem hlt] at hd
    cases hd
    unfold bestGo at hg
    have hkp' : ∀ a o, h0.get? a = some o → h'.get? a = some o := fun b o e => hk' b o (notw b o e) (hkp b o e)
    show wpAny _ A.in1 (tryCatch (holding [v, v] (richCompare .Gt v vb >>= _)) _ >>= _) _ _ _
    cases hb : gtD items[j] db with
    | none => rw [hb] at hg; cases hg
    | some b =>
    rw [hb] at hg
    refine wpAny_bind (wpAny_tryCatch (wpAny_holding (wpAny_bind (rich_gt_ok (s := { s with heap := h', toks := tk }) hv hvb hkp' hu hb ?_))))
    refine wpAny_bind (wpAny_holding (wpAny_truthy_bool ?_))
    refine wpAny_bind (wpAny_letGo (wpAny_pure ?_))
    cases b with
    | true =>
      simp only [if_true]
      refine wpAny_bind ?_
      refine wpAny_updateSeq hS' rfl (wpAny_bind (wpAny_letGo ?_))
      rw [hname]
      refine wpAny_pure ⟨plainId_quiet PySem.F.plain_max_loop _, ih (j + 1) _ v _ _ (by omega) hlt (W.frame _ _ _ hst' fun b hbf o e => ?_) (fun b o e => ?_) hv hg (Heap.get?_update_self _ hS' rfl)
        fun v' h'' tk'' hP' hk'' => ?_⟩
      · exact (Heap.get?_update_other _ _ (fun h : S = b => hSf (by rw [h]; exact hbf))).trans e
      · exact (Heap.get?_update_other _ _ (Ne.symm (notS b o e))).trans (hkp' b o e)
      · exact hR v' h'' tk'' hP' hk''
    | false =>
      simp only [Bool.false_eq_true, if_false]
      refine wpAny_bind (wpAny_letGo ?_)
      rw [hname]
      exact wpAny_pure ⟨plainId_quiet PySem.F.plain_max_loop _, ih (j + 1) _ vb db c (by omega) hlt hst' hkp' hvb hg hS' fun v' h'' tk'' hP' hk'' => hR v' h'' tk'' hP' hk''⟩
theorem call_max_ok {x : Value} {d : D} {r : List D} {res : D} {Q : Value → Shared → Prop} (hu : A.units + 2 < cLine) (hg : bestGo gtD d r = some res)
    (h : wpAny (model prog w) A.in1 (pyIter x) (fun it s₂ => ∃ I fp wr P St, it = .ref I ∧ Walks prog w A.in1 I fp wr (d :: r).length P St ∧ St 0 s₂.heap ∧ (∀ b ∈ fp, b < s₂.heap.objs.size) ∧ (∀ b ∈ wr, s.heap.get? b = none) ∧ (∀ a o, s.heap.get? a = some o → s₂.heap.get? a = some o) ∧
      (∀ i v, P i v → ∃ d', (d :: r)[i]? = some d' ∧ Rep cx.T F s.heap v d') ∧
      ∀ v h' tk, Rep cx.T F s.heap v res → (∀ b o, s.heap.get? b = some o → h'.get? b = some o) → Q v { s₂ with heap := h', toks := tk }) E s) :
    wpAny (model prog w) A (call (.builtin "max") [x]) Q E s := by
  have hname : (toString "max" ++ toString ".loop" : String) = "max.loop" := by decide
  refine call_function_tree PySem.F.kind_max PySem.F.plain_max PySem.F.entry_max (PySem.F.args_max1 _) ?_
  show wpAny _ A.in1 (Builtin.Builtins.bindParams "max" ["key", "default"] 0 ⟨[], []⟩ >>= _) _ _ s
  refine wpAny_bind (wpAny_of_eq (show Builtin.Builtins.bindParams "max" ["key", "default"] 0 ⟨[], []⟩ = pure [none, none] from rfl) ?_)
  refine wpAny_bind (wpAny_pure ?_)
  refine wpAny_bind (wpAny_mono h (fun it s₂ h₂ => ?_) fun _ _ e => e)
  obtain ⟨I, fp, wr, P, St, rfl, W, hst, hfp, hwr, hkp, item, hQ⟩ := h₂
  refine wpAny_bind (wpAny_newObj_type ?_)
  have hSf : s₂.heap.objs.size ∉ fp := fun hm => Nat.lt_irrefl _ (hfp _ hm)
  have hS0 : s.heap.get? s₂.heap.objs.size = none := by
    cases e : s.heap.get? s₂.heap.objs.size with
    | none => rfl
    | some o => exact absurd (Heap.lt_size (hkp _ _ e)) (Nat.lt_irrefl _)
  rw [hname]
  refine wpAny_pure ⟨plainId_quiet PySem.F.plain_max_loop _, ?_⟩
  have hSw : s₂.heap.objs.size ∉ wr := fun h => hSf (W.sub _ h)
  have hst1 := W.frame 0 _ (s₂.heap.push { cls := .type "list", data := .seq #[] 0 }) hst fun b _ o e => Heap.get?_push_of_some _ e
  refine codeAny_builtin PySem.F.entry_max_loop ?_
  rw [Around.under_plainId PySem.F.plain_max_loop _]
  show wpAny _ A.in1 (seqItems? (.ref s₂.heap.objs.size) >>= _) _ _ _
  refine wpAny_bind (wpAny_seqItems (Heap.get?_push_size _ rfl) rfl ?_)
  show wpAny _ A.in1 (tryCatch (pyNext (.ref I)) _ >>= _) _ _ _
  refine wpAny_bind (wpAny_tryCatch (W.item 0 _ _ _ (Nat.zero_lt_succ _) hst1 fun v h' tk hP hst' hk' => ?_))
  have hS' := hk' s₂.heap.objs.size _ hSw (Heap.get?_push_size _ rfl)
  obtain ⟨d', hd', hv⟩ := item 0 v hP
  cases hd'
  have notw : ∀ a o, s.heap.get? a = some o → a ∉ wr := fun a o e h => by rw [hwr a h] at e; cases e
  have notS : ∀ a o, s.heap.get? a = some o → a ≠ s₂.heap.objs.size := fun a o e h => by rw [h, hS0] at e; cases e
  show wpAny _ A.in1 (updateSeq s₂.heap.objs.size (fun _ => #[v, v]) >>= _) _ _ _
  refine wpAny_bind ?_
  refine wpAny_updateSeq hS' rfl ?_
  rw [hname]
  refine wpAny_pure ⟨plainId_quiet PySem.F.plain_max_loop _, max_loop (A := A) (cx := cx) (F := F) (h0 := s.heap) W (by omega) hSf (fun b hb => ?_) item (r.length) 1 _ v d _ (by simp) (by simp) (W.frame _ _ _ hst' fun b hbf o e => ?_) (fun b o e => ?_) hv (by simpa using hg) (Heap.get?_update_self _ hS' rfl) fun v' h'' tk'' hP' hk'' => ?_⟩
  · rcases List.mem_cons.mp hb with rfl | hb
    · exact hS0
    · exact hwr b hb
  · exact (Heap.get?_update_other _ _ (fun h : s₂.heap.objs.size = b => hSf (by rw [h]; exact hbf))).trans e
  · exact (Heap.get?_update_other _ _ (Ne.symm (notS b o e))).trans (hk' b o (notw b o e) (Heap.get?_push_of_some _ (hkp b o e)))
  · exact hQ v' h'' tk'' hP' hk''
end
section
variable {cx : XCx}
theorem op_min : OpOK cx .min (fun vs => call (.builtin "min") vs) := by
  intro n A F s vs ds r ok bud w q he Q E hQ
  replace he : opBest ltD ds = some r := he
  have hu : A.units + 2 < cLine := by have := bud.un; show A.units + 2 < 9900; omega
  cases best_inv he with
  | @list d r' res e1 =>
    obtain ⟨x, rfl, qa⟩ := q.one
    obtain ⟨a, vs, k, rfl, nx, g, z, ql⟩ := qa.list_inv w
    have hne : a ≠ s.heap.objs.size := Nat.ne_of_lt (Heap.lt_size g)
    have el : (d :: r').length = vs.toArray.size := by rw [List.size_toArray]; exact ql.length.symm
    refine call_min_ok (cx := cx) (F := F) hu e1 (wpAny_pyIter_list (isList_of g) ?_)
    refine ⟨s.heap.objs.size, [s.heap.objs.size, a], [s.heap.objs.size], fun i v => vs.toArray[i]? = some v, _, rfl, el ▸ Walks.list (A := A.in1) bud.hd _ a hne vs.toArray, ⟨⟨_, Heap.get?_push_size _ rfl, rfl, rfl⟩, isList_of (Heap.get?_push_of_some _ g)⟩, ?_, ?_, fun _ _ e => Heap.get?_push_of_some _ e, fun i v hv => ?_, fun v h' tk hv hk => ?_⟩
    · intro b hb
      simp only [List.mem_cons, List.not_mem_nil, or_false] at hb
      rw [Heap.size_push]
      rcases hb with rfl | rfl
      · exact Nat.lt_succ_self _
      · exact Nat.lt_succ_of_lt (Heap.lt_size g)
    · intro b hb
      simp only [List.mem_cons, List.not_mem_nil, or_false] at hb
      subst hb
      exact fresh_size _
    · replace hv : vs.toArray[i]? = some v := hv
      rw [List.getElem?_toArray] at hv
      exact ql.getV hv
    · exact hQ v F _ (Step.grown ok w tk hk) (.val (hv.mono (fun _ h => h) fun _ _ _ e => hk _ _ e))
  | @tup d r' res e1 =>
    obtain ⟨x, rfl, qa⟩ := q.one
    obtain ⟨a, vs, k, rfl, f, g, z, ql⟩ := qa.tup_inv
    have hne : a ≠ s.heap.objs.size := Nat.ne_of_lt (Heap.lt_size g)
    have el : (d :: r').length = vs.toArray.size := by rw [List.size_toArray]; exact ql.length.symm
    have ht : s.heap.IsTuple a vs.toArray := ⟨_, g, rfl, k, rfl⟩
    refine call_min_ok (cx := cx) (F := F) hu e1 (wpAny_pyIter_tuple ht ?_)
    refine ⟨s.heap.objs.size, [s.heap.objs.size, a], [s.heap.objs.size], fun i v => vs.toArray[i]? = some v, _, rfl, el ▸ Walks.tuple (A := A.in1) bud.hd _ a hne vs.toArray, ⟨⟨_, Heap.get?_push_size _ rfl, rfl, rfl⟩, ht.push _⟩, ?_, ?_, fun _ _ e => Heap.get?_push_of_some _ e, fun i v hv => ?_, fun v h' tk hv hk => ?_⟩
    · intro b hb
      simp only [List.mem_cons, List.not_mem_nil, or_false] at hb
      rw [Heap.size_push]
      rcases hb with rfl | rfl
      · exact Nat.lt_succ_self _
      · exact Nat.lt_succ_of_lt (Heap.lt_size g)
    · intro b hb
      simp only [List.mem_cons, List.not_mem_nil, or_false] at hb
      subst hb
      exact fresh_size _
    · replace hv : vs.toArray[i]? = some v := hv
      rw [List.getElem?_toArray] at hv
      exact ql.getV hv
    · exact hQ v F _ (Step.grown ok w tk hk) (.val (hv.mono (fun _ h => h) fun _ _ _ e => hk _ _ e))
theorem op_max : OpOK cx .max (fun vs => call (.builtin "max") vs) := by
  intro n A F s vs ds r ok bud w q he Q E hQ
  replace he : opBest gtD ds = some r := he
  have hu : A.units + 2 < cLine := by have := bud.un; show A.units + 2 < 9900; omega
  cases best_inv he with
  | @list d r' res e1 =>
    obtain ⟨x, rfl, qa⟩ := q.one
    obtain ⟨a, vs, k, rfl, nx, g, z, ql⟩ := qa.list_inv w
    have hne : a ≠ s.heap.objs.size := Nat.ne_of_lt (Heap.lt_size g)
    have el : (d :: r').length = vs.toArray.size := by rw [List.size_toArray]; exact ql.length.symm
    refine call_max_ok (cx := cx) (F := F) hu e1 (wpAny_pyIter_list (isList_of g) ?_)
    refine ⟨s.heap.objs.size, [s.heap.objs.size, a], [s.heap.objs.size], fun i v => vs.toArray[i]? = some v, _, rfl, el ▸ Walks.list (A := A.in1) bud.hd _ a hne vs.toArray, ⟨⟨_, Heap.get?_push_size _ rfl, rfl, rfl⟩, isList_of (Heap.get?_push_of_some _ g)⟩, ?_, ?_, fun _ _ e => Heap.get?_push_of_some _ e, fun i v hv => ?_, fun v h' tk hv hk => ?_⟩
    · intro b hb
      simp only [List.mem_cons, List.not_mem_nil, or_false] at hb
      rw [Heap.size_push]
      rcases hb with rfl | rfl
      · exact Nat.lt_succ_self _
      · exact Nat.lt_succ_of_lt (Heap.lt_size g)
    · intro b hb
      simp only [List.mem_cons, List.not_mem_nil, or_false] at hb
      subst hb
      exact fresh_size _
    · replace hv : vs.toArray[i]? = some v := hv
      rw [List.getElem?_toArray] at hv
      exact ql.getV hv
    · exact hQ v F _ (Step.grown ok w tk hk) (.val (hv.mono (fun _ h => h) fun _ _ _ e => hk _ _ e))
  | @tup d r' res e1 =>
    obtain ⟨x, rfl, qa⟩ := q.one
    obtain ⟨a, vs, k, rfl, f, g, z, ql⟩ := qa.tup_inv
    have hne : a ≠ s.heap.objs.size := Nat.ne_of_lt (Heap.lt_size g)
    have el : (d :: r').length = vs.toArray.size := by rw [List.size_toArray]; exact ql.length.symm
    have ht : s.heap.IsTuple a vs.toArray := ⟨_, g, rfl, k, rfl⟩
    refine call_max_ok (cx := cx) (F := F) hu e1 (wpAny_pyIter_tuple ht ?_)
    refine ⟨s.heap.objs.size, [s.heap.objs.size, a], [s.heap.objs.size], fun i v => vs.toArray[i]? = some v, _, rfl, el ▸ Walks.tuple (A := A.in1) bud.hd _ a hne vs.toArray, ⟨⟨_, Heap.get?_push_size _ rfl, rfl, rfl⟩, ht.push _⟩, ?_, ?_, fun _ _ e => Heap.get?_push_of_some _ e, fun i v hv => ?_, fun v h' tk hv hk => ?_⟩
    · intro b hb
      simp only [List.mem_cons, List.not_mem_nil, or_false] at hb
      rw [Heap.size_push]
      rcases hb with rfl | rfl
      · exact Nat.lt_succ_self _
      · exact Nat.lt_succ_of_lt (Heap.lt_size g)
    · intro b hb
      simp only [List.mem_cons, List.not_mem_nil, or_false] at hb
      subst hb
      exact fresh_size _
    · replace hv : vs.toArray[i]? = some v := hv
      rw [List.getElem?_toArray] at hv
      exact ql.getV hv
    · exact hQ v F _ (Step.grown ok w tk hk) (.val (hv.mono (fun _ h => h) fun _ _ _ e => hk _ _ e))
end
end Mine
end MqBx
section MqCx
open PySem PySem.Calls PyProof.Rows PySem.Builtin.Str
namespace Mine
set_option genInjectivity false in
structure IterE (cx : XCx) (A : Around) (F₀ : Addr → Prop) (s₀ : Shared) (items : List D) (e it : Addr) (F : Addr → Prop) (s : Shared) (fp : List Addr) (P : Nat → Value → Prop) (St : Nat → Heap → Prop) : Prop where
  st : Step cx F₀ s₀ F s
  W : ∀ A' : Around, A'.handled = none → Draws cx.prog cx.w A' it fp items.length P St
  s0 : St 0 s.heap
  he : IsEnum s.heap e it 0 .none
  ne : e ≠ it
  nef : e ∉ fp
  newe : s₀.heap.get? e = none ∧ ¬ F e
  newi : s₀.heap.get? it = none ∧ ¬ F it
  deps : ∀ b ∈ fp, b = it ∨ F b
  item : ∀ i v, P i v → ∃ d, items[i]? = some d ∧ Rep cx.T F s.heap v d
  live : ∀ i h, St i h → ∃ o, h.get? it = some o
  lim : items.length ≤ lim
section
variable {cx : XCx} {ε : Sc}
theorem enumL_drop : ∀ {l : List D} {j : Nat} {k : Int} {d : D}, l[j]? = some d → (enumL k l).drop j = .tup [.int (k + j), d] :: (enumL k l).drop (j + 1)
  | [], j, k, d, h => by cases h
  | a :: l, 0, k, d, h => by
    cases h
    show D.tup [.int k, a] :: enumL (k + 1) l = _
    simp [enumL]
  | a :: l, j + 1, k, d, h => by
    show (enumL (k + 1) l).drop j = _ :: (enumL (k + 1) l).drop (j + 1)
    rw [enumL_drop (l := l) (by simpa using h), show k + 1 + (j : Int) = k + ((j + 1 : Nat) : Int) by push_cast; omega]
theorem enumL_length : ∀ {l : List D} {k : Int}, (enumL k l).length = l.length
  | [], _ => rfl
  | a :: l, k => by show (enumL (k + 1) l).length + 1 = _; rw [enumL_length]; rfl
inductive EnI (cx : XCx) (ε : Sc) (env : Env) (F : Addr → Prop) (s : Shared) (ρ : List Slot) (ad : Nat → Addr) (F0 : Addr → Prop) (h0 : Heap) (e it : Addr) (St : Nat → Heap → Prop) (items : List D) (go : List D → List Slot → Option (List Slot × Out)) (res : Option (List Slot × Out)) (k : Nat) (s' : Shared) : Prop
  | mk (j : Nat) (F' : Addr → Prop) (ρ₁ : List Slot) (ad₁ : Nat → Addr) (m₁ cm₁ : Str → Option Value) (old : Value) (hj : j ≤ items.length) (hk : k = items.length - j) (x1 : StepS cx env F s ρ ad F' s' ρ₁ ad₁) (hrep : ∀ v d, Rep cx.T F0 h0 v d → Rep cx.T F' s'.heap v d) (hF : ∀ a, F0 a → F' a) (f1 : Frm cx ε env F' s' ρ₁ ad₁ m₁ cm₁) (hst : St j s'.heap)
    (he : IsEnum s'.heap e it (j : Int) old) (hwr : ∀ b ∈ [e, it], ¬ F' b ∧ ¬ Mut env ρ₁ ad₁ b) (hg : go ((enumL 0 items).drop j) ρ₁ = res)
set_option genInjectivity false in
structure EnL (cx : XCx) (env : Env) (F0 : Addr → Prop) (h0 : Heap) (e it : Addr) (St : Nat → Heap → Prop) (j : Nat) (old : Value) (F4 : Addr → Prop) (h4 : Heap) (ρ4 : List Slot) (ad4 : Nat → Addr) : Prop where
  p1 : ∀ v d, Rep cx.T F0 h0 v d → Rep cx.T F4 h4 v d
  p2 : ∀ a, F0 a → F4 a
  p3 : St j h4
  p4 : ∀ b ∈ [e, it], ¬ F4 b ∧ ¬ Mut env ρ4 ad4 b
  p5 : IsEnum h4 e it (j : Int) old
theorem for_enum {x y : Str} {i1 i2 : Nat} {px py pt : Pos} {kt : Nat} {it : Expr} {bs : List Stmt} {b : S} {pos : Pos} (hx : ε.vars.lookup x = some i1) (hy : ε.vars.lookup y = some i2) (hfx : ε.kinds.lookup x ≠ some .free) (hfy : ε.kinds.lookup y ≠ some .free) (hb : SoundSs cx ε bs b)
    (hs : ∀ env x, foldedSetIterable it env x = pure x) {n cf A env F s ρ ad m cm} (H : HereS cx ε n cf A env F s ρ ad m cm) {items : List D}
    (hi : ∀ (Q : Value → Shared → Prop) (E : Value → Shared → Prop), (∀ e i F' s' fp P St, IterE cx A F s items e i F' s' fp P St → Q (.ref e) s') → wpAny (model cx.prog cx.w) A (eval it env) (fun v s₁ => wpAny (model cx.prog cx.w) A (pyIter v) Q E s₁) E s)
    {ρ' : List Slot} {o : Out}
    (h : forGo (put2 i1 i2) (ex cf b) (enumL 0 items) ρ = some (ρ', o)) {Q : Flow → Shared → Prop} {E : Value → Shared → Prop} (hQ : PostS cx ε env F s ρ ad ρ' o Q) : wpAny (model cx.prog cx.w) A (exec (.For (.Tuple [.Name x px, .Name y py] kt pt) it bs [] pos) env) Q E s := by
  refine wpAny_For (hi _ _ fun e i0 F0 s0 fp P St J => ?_) (hs env)
  have nxx : ∀ b, s.heap.get? b = none → ¬ cx.X b := fun b hb h => by
    obtain ⟨o, e⟩ := H.wd.xex b h
    rw [hb] at e; cases e
  have new : ∀ b ∈ [e, i0], s.heap.get? b = none ∧ ¬ F0 b := fun b hb => by
    simp only [List.mem_cons, List.not_mem_nil, or_false] at hb
    rcases hb with rfl | rfl
    · exact J.newe
    · exact J.newi
  refine codeAny_forLoop_any (EnI cx ε env F s ρ ad F0 s0.heap e i0 St items (forGo (put2 i1 i2) (ex cf b)) (some (ρ', o))) (fun k s' hI => ?_) items.length
    ⟨0, F0, ρ, ad, m, cm, .none, Nat.zero_le _, rfl, .ofStep J.st, fun _ _ h => h, fun _ h => h, (H.step J.st).frm, J.s0, J.he, fun b hb => ⟨(new b hb).2, fun hm => ?_⟩, h⟩
  rotate_left
  · obtain ⟨o, e⟩ := H.frm.isSome hm
    rw [(new b hb).1] at e; cases e
  obtain ⟨j, F', ρ₁, ad₁, m₁, cm₁, old, hj, rfl, x1, hrep, hF, f1, hst, hen, hwr, hg⟩ := hI
  have hwr' : ∀ b ∈ [e, i0], s.heap.get? b = none ∧ ¬ F' b ∧ ¬ Mut env ρ₁ ad₁ b := fun b hb => ⟨(new b hb).1, (hwr b hb).1, (hwr b hb).2⟩
  have out : ∀ b, b ∉ [e, i0] → b ≠ e ∧ b ≠ i0 := fun b hb => by
    simp only [List.mem_cons, List.not_mem_nil, or_false, not_or] at hb
    exact hb
  rcases Nat.lt_or_ge j items.length with hlt | hge
  · refine wpAny_pyNext_enum_itemD (J.W A.in1 H.bud.hd) hen hst hlt J.ne J.nef fun v h' tk hP hout hst' hT hsz hk => ?_
    have hk1 : ∀ b o, b ∉ [e, i0] → s'.heap.get? b = some o → h'.get? b = some o := fun b o hb q => hk b o (out b hb).1 (out b hb).2 q
    refine wpAny_letOwnedTupleGo_enum (s := { s' with heap := h', toks := tk + 1 }) hout fun h2 hen2 hs2 => ?_
    have hk2 : ∀ b o, b ∉ [e, i0] → s'.heap.get? b = some o → h2.get? b = some o := fun b o hb q => hs2.extBut b o (out b hb).1 (hk1 b o hb q)
    obtain ⟨x2, f2⟩ := x1.kept H.ok H.wd f1 hwr' (h' := h2) (tk + 1) hk2
    obtain ⟨d, hd, hr⟩ := J.item j v hP
    rw [enumL_drop hd] at hg
    unfold forGo at hg
    have keepF : ∀ a o, F' a → s'.heap.get? a = some o → h2.get? a = some o := fun a o f e => hk2 a o (fun hm => (hwr a hm).1 f) e
    have hr2 : ∀ v d, Rep cx.T F0 s0.heap v d → Rep cx.T F' h2 v d := fun v d hr => (hrep v d hr).mono (fun _ h => h) keepF
    have hTne : s'.heap.objs.size ≠ e := fun q => by have := Heap.lt_size hen; rw [q] at this; exact Nat.lt_irrefl _ this
    have hT2 : h2.get? s'.heap.objs.size = some { cls := .type "tuple", data := .seq #[.int (j : Int) tk, v] } := hs2.extBut _ _ hTne hT
    have hst2 : St (j + 1) h2 := (J.W A H.bud.hd).frame _ _ _ hst' fun b hb o q => hs2.extBut b o (fun q => J.nef (q ▸ hb)) q
    have H2 := H.stepS x2 f2
    refine target_at H2 (a := s'.heap.objs.size) (vs := [.int (j : Int) tk, v]) (ds := [.int (0 + (j : Int)), d]) ⟨_, hT2, rfl, _, rfl⟩ ?_ (is := [i1, i2]) rfl rfl rfl (.cons hx hfx storesName (.cons hy hfy storesName .nil)) fun F3 s3 m3 cm3 x3 f3 => ?_
    · rw [Int.zero_add]; exact .cons (.int _ _) (.cons (hr2 v d hr) .nil)
    have H3 := H2.stepS x3 f3
    have later : ∀ {F4 s4 ρ4 ad4 m4 cm4}, StepS cx env F' { s' with heap := h2, toks := tk + 1 } ρ₁ ad₁ F4 s4 ρ4 ad4 → Frm cx ε env F4 s4 ρ4 ad4 m4 cm4 →
        EnL cx env F0 s0.heap e i0 St (j + 1) v F4 s4.heap ρ4 ad4 := by
      intro F4 s4 ρ4 ad4 m4 cm4 y f4
      obtain ⟨oi, hoi⟩ := J.live _ _ hst2
      have some2 : ∀ b ∈ [e, i0], ∃ o, h2.get? b = some o := fun b hb => by
        simp only [List.mem_cons, List.not_mem_nil, or_false] at hb
        rcases hb with rfl | rfl
        · exact ⟨_, hen2⟩
        · exact ⟨_, hoi⟩
      refine ⟨fun v d q => y.rep H2 (hr2 v d q), fun a h => y.sub a (hF a h), (J.W A H.bud.hd).frame _ _ _ hst2 fun b hb ob' q => ?_, fun b hb => ?_, ?_⟩
      · rcases J.deps b hb with rfl | hb
        · exact y.keep b ob' q (nxx b J.newi.1) (hwr b (by simp)).2
        · exact y.keep b ob' q (H2.wd.nx b (hF b hb)) fun hm => (f2.notF hm).1 (hF b hb)
      · obtain ⟨ob, gb⟩ := some2 b hb
        refine ⟨fun h => ?_, fun h => ?_⟩
        · rcases y.new b h with q | q | q
          · exact (hwr b hb).1 q
          · rw [show ({ s' with heap := h2, toks := tk + 1 } : Shared).heap.get? b = some ob from gb] at q; cases q
          · exact (hwr b hb).2 q
        · rcases y.mu b h with q | q
          · exact (hwr b hb).2 q
          · rw [show ({ s' with heap := h2, toks := tk + 1 } : Shared).heap.get? b = some ob from gb] at q; cases q
      · have := y.keep e _ hen2 (nxx e J.newe.1) (hwr e (by simp)).2
        rw [show (((j + 1 : Nat) : Int)) = (j : Int) + 1 by push_cast; rfl]
        exact this
    replace hg : (match ex cf b (setAll ρ₁ [i1, i2] [.int (0 + (j : Int)), d]) with
      | Option.none => Option.none
      | some (ρ', .next) => forGo (put2 i1 i2) (ex cf b) ((enumL 0 items).drop (j + 1)) ρ'
      | some (ρ', .cont) => forGo (put2 i1 i2) (ex cf b) ((enumL 0 items).drop (j + 1)) ρ'
      | some (ρ', .brk) => some (ρ', .next)
      | some (ρ', .ret d) => some (ρ', .ret d)) = some (ρ', o) := hg
    generalize setAll ρ₁ [i1, i2] [.int (0 + (j : Int)), d] = ρ₂ at hg x3 f3 H3
    cases eb : ex cf b ρ₂ with
    | none => rw [eb] at hg; cases hg
    | some pr =>
    obtain ⟨ρ₃, ob⟩ := pr
    rw [eb] at hg
    refine hb n cf A env F3 s3 ρ₂ ad₁ m3 cm3 H3 _ ob eb _ _ fun f F4 s4 ad4 m4 cm4 x4 f4 q => ?_
    cases q with
    | next =>
      obtain ⟨p1, p2, p3, p4, p5⟩ := later (x3.trans x4) f4
      exact ⟨items.length - (j + 1), by omega, j + 1, F4, ρ₃, ad4, m4, cm4, v, hlt, rfl, x2.trans (x3.trans x4), p1, p2, f4, p3, p5, p4, hg⟩
    | cont =>
      obtain ⟨p1, p2, p3, p4, p5⟩ := later (x3.trans x4) f4
      exact ⟨items.length - (j + 1), by omega, j + 1, F4, ρ₃, ad4, m4, cm4, v, hlt, rfl, x2.trans (x3.trans x4), p1, p2, f4, p3, p5, p4, hg⟩
    | brk => cases hg; exact hQ .next F4 s4 ad4 m4 cm4 (x2.trans (x3.trans x4)) f4 .next
    | ret r => cases hg; exact hQ _ F4 s4 ad4 m4 cm4 (x2.trans (x3.trans x4)) f4 (.ret r)
  · have ej : j = items.length := by omega
    subst ej
    rw [show (enumL 0 items).drop items.length = [] from List.drop_eq_nil_of_le (by rw [enumL_length]; exact Nat.le_refl _)] at hg
    cases hg
    refine wpAny_pyNext_enum_endD (J.W A.in1 H.bud.hd) hen hst fun h' hk => ?_
    obtain ⟨x2, f2⟩ := x1.kept H.ok H.wd f1 hwr' (h' := h') s'.toks fun b o hb q => hk b o (out b hb).2 q
    exact wpAny_execs_nil (hQ .next F' _ ad₁ m₁ cm₁ x2 f2 .next)
end
end Mine
end MqCx
section MqDx
open PySem PySem.Calls PyProof.Rows PySem.Builtin.Str
namespace Mine
section
variable {cx : XCx} {ε : Sc}
theorem op_pow : OpOK cx .pow (op2 (binaryOp .Pow)) := by
  intro n A F s vs ds r ok bud w q he Q E hQ
  replace he : opPow ds = some r := he
  rcases ds with _ | ⟨a0, t0⟩
  · cases he
  cases a0 <;> try (cases he; done)
  rcases t0 with _ | ⟨a1, t1⟩
  · cases he
  cases a1 <;> try (cases he; done)
  rcases t1 with _ | ⟨a2, t2⟩ <;> try (cases he; done)
  rename_i a b
  replace he : (if 0 ≤ b ∧ b ≤ 64 ∧ 0 ≤ a ∧ a ≤ 16 then some (R.val (.int (a ^ b.toNat))) else none) = some r := he
  split at he
  · rename_i hc
    cases he
    obtain ⟨h1, h2, h3, h4⟩ := hc
    obtain ⟨x, y, rfl, qa, qb⟩ := q.two
    obtain ⟨t, rfl⟩ := qa.int_inv
    obtain ⟨u, rfl⟩ := qb.int_inv
    exact pow_int_small h1 (Int.le_trans h2 (by decide)) (by omega) (hQ _ F _ ((Step.refl w).toks _) (.val (.int _ _)))
  · cases he
theorem op_sindex : OpOK cx .strIndex (fun vs => call (.builtin "str.index") vs) := by
  intro n A F s vs ds r ok bud w q he Q E hQ
  replace he : opSIndex ds = some r := he
  rcases ds with _ | ⟨a0, t0⟩
  · cases he
  cases a0 <;> try (cases he; done)
  rcases t0 with _ | ⟨a1, t1⟩
  · cases he
  cases a1 <;> try (cases he; done)
  rcases t1 with _ | ⟨a2, t2⟩ <;> try (cases he; done)
  rename_i a b
  replace he : (match occurrences ⟨a.toArray⟩ ⟨b.toArray⟩ 0 a.length 1 with | i :: _ => some (R.val (.int (i : Nat))) | [] => none) = some r := he
  obtain ⟨x, y, rfl, qa, qb⟩ := q.two
  obtain ⟨t, rfl, _, _⟩ := qa.str_inv
  obtain ⟨u, rfl, _, _⟩ := qb.str_inv
  cases ho : occurrences ⟨a.toArray⟩ ⟨b.toArray⟩ 0 a.length 1 with
  | nil => rw [ho] at he; cases he
  | cons i rest =>
    rw [ho] at he
    cases he
    exact SC.index (i := i) (rest := rest) ho (hQ _ F _ ((Step.refl w).toks _) (.val (.int _ _)))
theorem op_listOf : OpOK cx .listOf (fun vs => call (.type "list") vs) := by
  intro n A F s vs ds r ok bud w q he Q E hQ
  replace he : opListOf ds = some r := he
  rcases ds with _ | ⟨a0, t0⟩
  · cases he
  cases a0 <;> try (cases he; done)
  rcases t0 with _ | ⟨a1, t1⟩ <;> cases he
  obtain ⟨x, rfl, qa⟩ := q.one
  obtain ⟨a, vs, k, rfl, nx, g, z, ql⟩ := qa.list_inv w
  refine call_list_seq a (.inl rfl) g rfl rfl (fun h' c' keep hS => ?_) (by rw [List.size_toArray]; exact sz_line z)
  have hf : s.heap.get? s.heap.objs.size = none := fresh_size _
  exact hQ _ _ _ (Step.grown ok w s.toks keep) (.own (n := c') hf (w.newNotF hf) (w.newNotX hf) hS z (ql.mono (fun _ h => h) fun _ _ _ e => keep _ _ e))
theorem enum_seq {A : Around} (hh : A.handled = none) {F₀ F : Addr → Prop} {s₀ s : Shared} (ok : CxOk cx) (w₀ : Wd cx F₀ s₀) (st : Step cx F₀ s₀ F s) {v : Value} {d : D} (q : Rep cx.T F s.heap v d) {items : List D} (hi : enumOf d = some items)
    {Q : Value → Shared → Prop} {E : Value → Shared → Prop} (hQ : ∀ e i F' s' fp P St, IterE cx A F₀ s₀ items e i F' s' fp P St → Q (.ref e) s') : wpAny (model cx.prog cx.w) A (call (.type "enumerate") [v]) (fun v s₁ => wpAny (model cx.prog cx.w) A (pyIter v) Q E s₁) E s := by
  have fr := fresh_size s.heap
  have fr2 : s.heap.get? (s.heap.objs.size + 1) = none := Heap.get?_none_of_le (Nat.le_succ _)
  have n1 : s₀.heap.get? s.heap.objs.size = none ∧ ¬ F s.heap.objs.size := ⟨st.fresh (st.wd.newNotX fr) fr, st.wd.newNotF fr⟩
  have n2 : s₀.heap.get? (s.heap.objs.size + 1) = none ∧ ¬ F (s.heap.objs.size + 1) := ⟨st.fresh (st.wd.newNotX fr2) fr2, st.wd.newNotF fr2⟩
  cases q with
  | @list a vs n l f g z q =>
    cases hi
    have hlt := Heap.lt_size g
    have hne : a ≠ s.heap.objs.size := Nat.ne_of_lt hlt
    have el : items.length = vs.toArray.size := by rw [List.size_toArray]; exact q.length.symm
    refine call_enumerate_list (isList_of g) fun h' he hit hsz keep => ?_
    have stp := Step.grown ok st.wd s.toks keep
    refine wpAny_pyIter_enum he (hQ _ s.heap.objs.size F _ [s.heap.objs.size, a] (fun i v => vs.toArray[i]? = some v) (fun i h => h.IsListIter s.heap.objs.size a i ∧ h.IsList a vs.toArray) ?_)
    refine ⟨st.trans stp, fun A' hh => el ▸ Draws.list hh _ a hne vs.toArray, ⟨hit, isList_of (keep _ _ g)⟩, he, Nat.succ_ne_self _, ?_, n2, n1, fun b hb => ?_, fun i v h => ?_, fun i h hs => ?_, by rw [← q.length]; exact z⟩
    · simp only [List.mem_cons, List.not_mem_nil, or_false, not_or]
      exact ⟨Nat.succ_ne_self _, fun e => Nat.lt_irrefl _ (Nat.lt_of_succ_lt (e.symm ▸ hlt : s.heap.objs.size + 1 < s.heap.objs.size))⟩
    · simp only [List.mem_cons, List.not_mem_nil, or_false] at hb
      rcases hb with rfl | rfl
      · exact .inl rfl
      · exact .inr f
    · replace h : vs.toArray[i]? = some v := h
      rw [List.getElem?_toArray] at h
      obtain ⟨d, e, r⟩ := q.getV h
      exact ⟨d, e, stp.rep st.wd r⟩
    · obtain ⟨⟨o, g, _⟩, _⟩ := hs
      exact ⟨o, g⟩
  | @str l t p z =>
    cases hi
    have el : (l.map fun c => D.str [c]).length = (PySem.Str.mk l.toArray).cps.size := by simp
    refine call_enumerate_str fun h' he hit hsz keep => ?_
    have stp := Step.grown ok st.wd s.toks keep
    have item : ∀ (i : Nat) (v : Value), (∃ c u, (PySem.Str.mk l.toArray).cps[i]? = some c ∧ v = Value.str ⟨#[c]⟩ u) → ∃ d, (l.map fun c => D.str [c])[i]? = some d ∧ Rep cx.T F h' v d := by
      rintro i v ⟨c, u, e, rfl⟩
      rw [show (PySem.Str.mk l.toArray).cps = l.toArray from rfl, List.getElem?_toArray] at e
      refine ⟨.str [c], by rw [List.getElem?_map, e]; rfl, .str (l := [c]) u (fun c' h => ?_) (by simp [lim])⟩
      rw [List.mem_singleton.mp h]
      exact p _ (List.mem_of_getElem? e)
    have hz : (l.map fun c => D.str [c]).length ≤ lim := by simpa using z
    have nef : s.heap.objs.size + 1 ∉ [s.heap.objs.size] := fun h => Nat.succ_ne_self _ (List.mem_singleton.mp h)
    have deps : ∀ b ∈ [s.heap.objs.size], b = s.heap.objs.size ∨ F b := fun b hb => .inl (List.mem_singleton.mp hb)
    refine wpAny_pyIter_enum he ?_
    cases ha : (PySem.Str.mk l.toArray).cps.all (· < 128)
    · have hit' : h'.IsStrIter s.heap.objs.size "str_iterator" ⟨l.toArray⟩ t 0 := by unfold strIterType at hit; rw [ha] at hit; exact hit
      exact hQ _ s.heap.objs.size F _ _ _ _ ⟨st.trans stp, fun A' hh => el ▸ Draws.strWide hh _ ⟨l.toArray⟩ t, hit', he, Nat.succ_ne_self _, nef, n2, n1, deps, item, fun i h hs => let ⟨o, g, _⟩ := hs; ⟨o, g⟩, hz⟩
    · have hit' : h'.IsStrIter s.heap.objs.size "str_ascii_iterator" ⟨l.toArray⟩ t 0 := by unfold strIterType at hit; rw [ha] at hit; exact hit
      exact hQ _ s.heap.objs.size F _ _ _ _ ⟨st.trans stp, fun A' hh => el ▸ Draws.strAscii hh _ ⟨l.toArray⟩ t, hit', he, Nat.succ_ne_self _, nef, n2, n1, deps, item, fun i h hs => let ⟨o, g, _⟩ := hs; ⟨o, g⟩, hz⟩
  | _ => cases hi
theorem evI_enum {cf : Nat → List D → Option D} {x : X} {ρ : List Slot} {its : List D} (h : evI cf (.enumI x) ρ = some its) : ∃ r d items, ev cf x ρ = some [r] ∧ r.fz = some d ∧ enumOf d = some items ∧ its = enumL 0 items := by
  unfold evI at h
  split at h
  · rename_i l e
    cases h
    replace e := (evq_enumI _).symm.trans e
    split at e
    · rename_i r e1
      split at e
      · rename_i d e2
        obtain ⟨l', e3, e4⟩ := Option.map_eq_some_iff.mp e
        cases e4
        exact ⟨r, d, l', e1, e2, e3, rfl⟩
      · cases e
    · cases e
  · cases h
theorem soundS_forEnum {x y : Str} {i j : Nat} {p p' pt pe pc pos : Pos} {k : Nat} {e : Expr} {z : X} {bs : List Stmt} {b : S} (hk : ε.kinds.lookup ("enumerate" : Str) = some .globalImplicit) (hg : cx.mg ("enumerate" : Str) = none)
    (hx : ε.vars.lookup x = some i) (hy : ε.vars.lookup y = some j) (hfx : ε.kinds.lookup x ≠ some .free) (hfy : ε.kinds.lookup y ≠ some .free) (hi : Sound cx ε e z) (hst : starred e = false) (hb : SoundSs cx ε bs b)
    (hs : ∀ env x, foldedSetIterable (.Call (.Name "enumerate" pe) [e] [] pc) env x = pure x) : SoundS cx ε (.For (.Tuple [.Name x p, .Name y p'] k pt) (.Call (.Name "enumerate" pe) [e] [] pc) bs [] pos) (.forE2 i j (.enumI z) b) := by
  intro n cf A env F s ρ ad m cm H ρ' o h Q E hQ
  replace h := (exq_forE2 cf).symm.trans h
  split at h
  · rename_i its ei
    obtain ⟨r, d, items, e1, e2, e3, rfl⟩ := evI_enum ei
    refine for_enum hx hy hfx hfy hb hs H (fun Q' E' hQ' => ?_) h hQ
    rw [call_not_method (by intro _ _ _ e; cases e)]
    refine wpAny_bind (load_builtin H.here hk hg (by decide) (v := .type "enumerate") (by kernel_rfl) (by decide) ?_)
    have hL : SoundL cx ε [e] (.cons z .nil) false := .cons hi hst .nil
    refine PyProof.Rows.callWith_type (backTo_any hL) (evalArgs_ok hL H.here (ev_cons1 e1) fun vs F' s' st q => ?_)
    obtain ⟨v, rfl, q0⟩ : ∃ v, vs = [v] ∧ RepR cx F' s.heap s'.heap v r := by
      cases q with | cons a b => cases b; exact ⟨_, rfl, a⟩
    obtain ⟨F'', st', _, q'⟩ := st.fz H.ok H.wd q0 e2
    exact enum_seq H.bud.hd H.ok H.wd st' q' e3 hQ'
  · cases h
theorem m_index {o : Expr} {apos pos : Pos} {es : List Expr} {xo x : X} (hl : (apos.endLine == pos.line) = true) (hb : plainBase o = true) (hn : es.length < 30) (h0 : Sound cx ε o xo) (h : SoundL cx ε es x false) : Sound cx ε (.Call (.Attribute o "index" apos) es [] pos) (.op .strIndex (.cons xo x)) :=
  sound_strMeth hb hl hn PySem.F.slot_str_index rfl h0 h (by
    intro d ds r h
    replace h : opSIndex (d :: ds) = some r := h
    unfold opSIndex at h
    split at h
    · rename_i e; cases e; exact ⟨_, rfl⟩
    · cases h) op_sindex
end
end Mine
end MqDx
section Dsx
open PySem
namespace Mine
noncomputable def s_escape : S := (.seq (.ite (.op .isInst (.cons (.var 0) (.cons (.const (.ty "str")) .nil))) (.seq (.ret (.op .translate (.cons (.var 0) .nil))) .skip) dead) .skip)
noncomputable def fn_escape : Fn := { np := 1, va := false, ns := 1, body := s_escape }
noncomputable def s_fspath : S := (.seq (.assign 1 (.op .tyOf (.cons (.var 0) .nil))) (.seq (.ite (.op .isSub (.cons (.var 1) (.cons (.tup (.cons (.const (.ty "str")) (.cons (.const (.ty "bytes")) .nil))) .nil))) (.seq (.ret (.var 0)) .skip) .skip) dead))
noncomputable def fn_fspath : Fn := { np := 1, va := false, ns := 4, body := s_fspath }
noncomputable def s_get_sep : S := (.seq (.ite (.op .isInst (.cons (.var 0) (.cons (.const (.ty "bytes")) .nil))) dead (.seq (.ret (.const (.str [47]))) .skip)) .skip)
noncomputable def fn_get_sep : Fn := { np := 1, va := false, ns := 1, body := s_get_sep }
noncomputable def s_join : S := (.seq (.assign 0 (.call 2 (.cons (.var 0) .nil))) (.seq (.assign 2 (.call 3 (.cons (.var 0) .nil))) (.seq (.assign 3 (.var 0)) (.seq (.try_ (.seq (.forE 4 (.seqI (.var 1)) (.seq (.assign 4 (.call 2 (.cons (.var 4) .nil))) (.seq (.ite (.or (.op .startswith (.cons (.var 4) (.cons (.var 2) .nil))) (.not (.var 3))) (.seq (.assign 3 (.var 4)) .skip) (.seq (.ite (.op .endswith (.cons (.var 3) (.cons (.var 2) .nil))) (.seq (.aug 3 (.var 4)) .skip) (.seq (.aug 3 (.op .add (.cons (.var 2) (.cons (.var 4) .nil)))) .skip)) .skip)) .skip))) .skip)) (.seq (.ret (.var 3)) .skip)))))
noncomputable def fn_join : Fn := { np := 1, va := true, ns := 5, body := s_join }
noncomputable def s_dirname : S := (.seq (.assign 0 (.call 2 (.cons (.var 0) .nil))) (.seq (.assign 1 (.call 3 (.cons (.var 0) .nil))) (.seq (.assign 2 (.op .add (.cons (.op .rfind (.cons (.var 0) (.cons (.var 1) .nil))) (.cons (.const (.int 1)) .nil)))) (.seq (.assign 3 (.op .slice (.cons (.var 0) (.cons (.const .none) (.cons (.var 2) .nil))))) (.seq (.ite (.and (.var 3) (.op .ne (.cons (.var 3) (.cons (.op .mul (.cons (.var 1) (.cons (.op .len (.cons (.var 3) .nil)) .nil))) .nil)))) (.seq (.assign 3 (.op .rstrip (.cons (.var 3) (.cons (.var 1) .nil)))) .skip) .skip) (.seq (.ret (.var 3)) .skip))))))
noncomputable def fn_dirname : Fn := { np := 1, va := false, ns := 4, body := s_dirname }
noncomputable def s_splitroot : S := (.seq (.assign 0 (.call 2 (.cons (.var 0) .nil))) (.seq (.ite (.op .isInst (.cons (.var 0) (.cons (.const (.ty "bytes")) .nil))) dead (.seq (.assign 1 (.const (.str [47]))) (.seq (.assign 2 (.const (.str []))) .skip))) (.seq (.ite (.op .ne (.cons (.op .slice (.cons (.var 0) (.cons (.const .none) (.cons (.const (.int 1)) .nil)))) (.cons (.var 1) .nil))) (.seq (.ret (.tup (.cons (.var 2) (.cons (.var 2) (.cons (.var 0) .nil))))) .skip) (.seq (.ite (.or (.op .ne (.cons (.op .slice (.cons (.var 0) (.cons (.const (.int 1)) (.cons (.const (.int 2)) .nil)))) (.cons (.var 1) .nil))) (.op .eq (.cons (.op .slice (.cons (.var 0) (.cons (.const (.int 2)) (.cons (.const (.int 3)) .nil)))) (.cons (.var 1) .nil)))) (.seq (.ret (.tup (.cons (.var 2) (.cons (.var 1) (.cons (.op .slice (.cons (.var 0) (.cons (.const (.int 1)) (.cons (.const .none) .nil)))) .nil))))) .skip) (.seq (.ret (.tup (.cons (.var 2) (.cons (.op .slice (.cons (.var 0) (.cons (.const .none) (.cons (.const (.int 2)) .nil)))) (.cons (.op .slice (.cons (.var 0) (.cons (.const (.int 2)) (.cons (.const .none) .nil)))) .nil))))) .skip)) .skip)) .skip)))
noncomputable def fn_splitroot : Fn := { np := 1, va := false, ns := 3, body := s_splitroot }
noncomputable def s_basename : S := (.seq (.assign 0 (.call 2 (.cons (.var 0) .nil))) (.seq (.assign 1 (.call 3 (.cons (.var 0) .nil))) (.seq (.assign 2 (.op .add (.cons (.op .rfind (.cons (.var 0) (.cons (.var 1) .nil))) (.cons (.const (.int 1)) .nil)))) (.seq (.ret (.op .slice (.cons (.var 0) (.cons (.var 2) (.cons (.const .none) .nil))))) .skip))))
noncomputable def fn_basename : Fn := { np := 1, va := false, ns := 3, body := s_basename }
noncomputable def s_normpath : S := (.seq (.assign 0 (.call 2 (.cons (.var 0) .nil))) (.seq (.ite (.op .isInst (.cons (.var 0) (.cons (.const (.ty "bytes")) .nil))) dead (.seq (.assign 1 (.const (.str [47]))) (.seq (.assign 2 (.const (.str [46]))) (.seq (.assign 3 (.const (.str [46, 46]))) .skip)))) (.seq (.ite (.not (.var 0)) (.seq (.ret (.var 2)) .skip) .skip) (.seq (.assign3 4 5 0 (.call 7 (.cons (.var 0) .nil))) (.seq (.assign 6 (.op .split (.cons (.var 0) (.cons (.var 1) .nil)))) (.seq (.assignO 7 (.list .nil)) (.seq (.forE 8 (.seqI (.var 6)) (.seq (.ite (.or (.not (.var 8)) (.op .eq (.cons (.var 8) (.cons (.var 2) .nil)))) (.seq .cont .skip) .skip) (.seq (.ite (.or (.op .ne (.cons (.var 8) (.cons (.var 3) .nil))) (.or (.and (.not (.var 5)) (.not (.var 7))) (.and (.var 7) (.op .eq (.cons (.op .index (.cons (.var 7) (.cons (.op .neg (.cons (.const (.int 1)) .nil)) .nil))) (.cons (.var 3) .nil)))))) (.seq (.append 7 (.var 8)) .skip) (.seq (.ite (.var 7) (.seq (.pop 7) .skip) .skip) .skip)) .skip))) (.seq (.seq (.fz 7) (.assign 6 (.var 7))) (.seq (.assign 0 (.op .add (.cons (.var 5) (.cons (.op .join (.cons (.var 1) (.cons (.var 6) .nil))) .nil)))) (.seq (.ret (.or (.var 0) (.var 2))) .skip))))))))))
noncomputable def fn_normpath : Fn := { np := 1, va := false, ns := 9, body := s_normpath }
noncomputable def s_abspath : S := (.seq (.assign 0 (.call 2 (.cons (.var 0) .nil))) (.seq (.ite (.op .isInst (.cons (.var 0) (.cons (.const (.ty "bytes")) .nil))) dead (.seq (.ite (.not (.op .startswith (.cons (.var 0) (.cons (.const (.str [47])) .nil)))) dead .skip) .skip)) (.seq (.ret (.call 9 (.cons (.var 0) .nil))) .skip)))
noncomputable def fn_abspath : Fn := { np := 1, va := false, ns := 1, body := s_abspath }
noncomputable def s_relpath : S := (.seq (.assign 0 (.call 2 (.cons (.var 0) .nil))) (.seq (.ite (.not (.var 0)) dead .skip) (.seq (.ite (.op .isInst (.cons (.var 0) (.cons (.const (.ty "bytes")) .nil))) dead (.seq (.assign 2 (.const (.str [46]))) (.seq (.assign 3 (.const (.str [47]))) (.seq (.assign 4 (.const (.str [46, 46]))) .skip)))) (.seq (.ite (.op .is_ (.cons (.var 1) (.cons (.const .none) .nil))) (.seq (.assign 1 (.var 2)) .skip) (.seq (.assign 1 (.call 2 (.cons (.var 1) .nil))) .skip)) (.seq (.try_ (.seq (.assign 5 (.op .lstrip (.cons (.call 10 (.cons (.var 1) .nil)) (.cons (.var 3) .nil)))) (.seq (.assign 6 (.op .lstrip (.cons (.call 10 (.cons (.var 0) .nil)) (.cons (.var 3) .nil)))) (.seq (.assign 7 (.ite (.var 5) (.op .split (.cons (.var 5) (.cons (.var 3) .nil))) (.list .nil))) (.seq (.assign 8 (.ite (.var 6) (.op .split (.cons (.var 6) (.cons (.var 3) .nil))) (.list .nil))) (.seq (.assign 9 (.op .len (.cons (.call 12 (.cons (.list (.cons (.var 7) (.cons (.var 8) .nil))) .nil)) .nil))) (.seq (.assign 10 (.op .add (.cons (.op .mul (.cons (.list (.cons (.var 4) .nil)) (.cons (.op .sub (.cons (.op .len (.cons (.var 7) .nil)) (.cons (.var 9) .nil))) .nil))) (.cons (.op .slice (.cons (.var 8) (.cons (.var 9) (.cons (.const .none) .nil)))) .nil)))) (.seq (.ite (.not (.var 10)) (.seq (.ret (.var 2)) .skip) .skip) (.seq (.ret (.op .join (.cons (.var 3) (.cons (.var 10) .nil)))) .skip))))))))) .skip)))))
noncomputable def fn_relpath : Fn := { np := 2, va := false, ns := 11, body := s_relpath }
noncomputable def s_commonprefix : S := (.seq (.ite (.not (.var 0)) (.seq (.ret (.const (.str []))) .skip) .skip) (.seq (.ite (.not (.op .isInst (.cons (.op .index (.cons (.var 0) (.cons (.const (.int 0)) .nil))) (.cons (.tup (.cons (.const (.ty "list")) (.cons (.const (.ty "tuple")) .nil))) .nil)))) dead .skip) (.seq (.assign 1 (.op .min (.cons (.var 0) .nil))) (.seq (.assign 2 (.op .max (.cons (.var 0) .nil))) (.seq (.forE2 3 4 (.enumI (.var 1)) (.seq (.ite (.op .ne (.cons (.var 4) (.cons (.op .index (.cons (.var 2) (.cons (.var 3) .nil))) .nil))) (.seq (.ret (.op .slice (.cons (.var 1) (.cons (.const .none) (.cons (.var 3) .nil))))) .skip) .skip) .skip)) (.seq (.ret (.var 1)) .skip))))))
noncomputable def fn_commonprefix : Fn := { np := 1, va := false, ns := 5, body := s_commonprefix }
noncomputable def s_law_runs : S := (.seq (.assignO 3 (.list .nil)) (.seq (.assign 4 (.const (.int 0))) (.seq (.assign 5 (.const (.int 0))) (.seq (.while (.op .lt (.cons (.var 5) (.cons (.op .len (.cons (.var 0) .nil)) .nil))) (.seq (.assign 6 (.var 4)) (.seq (.ite (.op .is_ (.cons (.op .index (.cons (.var 0) (.cons (.var 5) .nil))) (.cons (.var 1) .nil))) (.seq (.assign 5 (.op .add (.cons (.var 5) (.cons (.const (.int 1)) .nil)))) (.seq (.while (.and (.op .lt (.cons (.var 4) (.cons (.op .len (.cons (.var 2) .nil)) .nil))) (.op .ne (.cons (.op .index (.cons (.var 2) (.cons (.var 4) .nil))) (.cons (.op .index (.cons (.op .index (.cons (.var 0) (.cons (.var 5) .nil))) (.cons (.op .neg (.cons (.const (.int 1)) .nil)) .nil))) .nil)))) (.seq (.assign 4 (.op .add (.cons (.var 4) (.cons (.const (.int 1)) .nil)))) .skip)) (.seq (.append 3 (.op .slice (.cons (.var 2) (.cons (.var 6) (.cons (.var 4) .nil))))) .skip))) .skip) (.seq (.ite (.or (.op .eq (.cons (.var 4) (.cons (.op .len (.cons (.var 2) .nil)) .nil))) (.op .ne (.cons (.op .index (.cons (.var 2) (.cons (.var 4) .nil))) (.cons (.op .index (.cons (.op .index (.cons (.var 0) (.cons (.var 5) .nil))) (.cons (.op .neg (.cons (.const (.int 1)) .nil)) .nil))) .nil)))) (.seq (.ret (.const .none)) .skip) .skip) (.seq (.assign 4 (.op .add (.cons (.var 4) (.cons (.const (.int 1)) .nil)))) (.seq (.assign 5 (.op .add (.cons (.var 5) (.cons (.const (.int 1)) .nil)))) .skip)))))) (.seq (.seq (.fz 3) (.ret (.ite (.op .eq (.cons (.var 4) (.cons (.op .len (.cons (.var 2) .nil)) .nil))) (.var 3) (.const .none)))) .skip)))))
noncomputable def fn_law_runs : Fn := { np := 3, va := false, ns := 7, body := s_law_runs }
noncomputable def s_law_laid : S := (.seq (.assign 2 (.op .index (.cons (.var 0) (.cons (.const (.int 0)) .nil)))) (.seq (.forE 3 (.rangeI (.cons (.const (.int 3)) .nil)) (.seq (.assign 2 (.op .add (.cons (.op .add (.cons (.var 2) (.cons (.op .index (.cons (.var 1) (.cons (.var 3) .nil))) .nil))) (.cons (.op .index (.cons (.var 0) (.cons (.op .add (.cons (.var 3) (.cons (.const (.int 1)) .nil))) .nil))) .nil)))) .skip)) (.seq (.ret (.var 2)) .skip)))
noncomputable def fn_law_laid : Fn := { np := 2, va := false, ns := 4, body := s_law_laid }
end Mine
end Dsx
section D07x
open PySem
namespace Mine
noncomputable def s_translate7 : S := (.seq (.assignO 3 (.list .nil)) (.seq (.alias 4 3) (.seq (.assign2 5 6 (.tup (.cons (.const (.int 0)) (.cons (.op .len (.cons (.var 0) .nil)) .nil)))) (.seq (.while (.op .lt (.cons (.var 5) (.cons (.var 6) .nil))) (.seq (.assign 7 (.op .index (.cons (.var 0) (.cons (.var 5) .nil)))) (.seq (.assign 5 (.op .add (.cons (.var 5) (.cons (.const (.int 1)) .nil)))) (.seq (.ite (.op .eq (.cons (.var 7) (.cons (.const (.str [42])) .nil))) (.seq (.ite (.or (.not (.var 3)) (.op .isnot (.cons (.op .index (.cons (.var 3) (.cons (.op .neg (.cons (.const (.int 1)) .nil)) .nil))) (.cons (.var 1) .nil)))) (.seq (.appendVia 4 3 (.var 1)) .skip) .skip) .skip) (.seq (.ite (.op .eq (.cons (.var 7) (.cons (.const (.str [63])) .nil))) (.seq (.appendVia 4 3 (.var 2)) .skip) (.seq (.ite (.op .eq (.cons (.var 7) (.cons (.const (.str [91])) .nil))) dead (.seq (.appendVia 4 3 (.call 0 (.cons (.var 7) .nil))) .skip)) .skip)) .skip)) .skip)))) (.seq (.assert (.op .eq (.cons (.var 5) (.cons (.var 6) .nil)))) (.seq (.seq (.fz 3) (.ret (.var 3))) .skip))))))
noncomputable def fn_translate7 : Fn := { np := 3, va := false, ns := 13, body := s_translate7 }
noncomputable def s_law : S := (.seq (.assignO 2 (.list .nil)) (.seq (.forE 3 (.rangeI (.cons (.const (.int 5)) .nil)) (.seq (.assign 4 (.op .add (.cons (.op .abs (.cons (.op .sum (.cons (.op .slice3 (.cons (.var 0) (.cons (.var 3) (.cons (.const .none) (.cons (.const (.int 6)) .nil))))) .nil)) .nil)) (.cons (.op .index (.cons (.tup (.cons (.const (.int 21847)) (.cons (.const (.int 1054)) (.cons (.const (.int 930217)) (.cons (.const (.int 66)) (.cons (.const (.int 424242)) .nil)))))) (.cons (.var 3) .nil))) .nil)))) (.seq (.assign 6 (.op .add (.cons (.const (.str [47])) (.cons (.op .join (.cons (.const (.str [47])) (.cons (.comp 20 (.rangeI (.cons (.op .mod (.cons (.var 4) (.cons (.const (.int 3)) .nil))) .nil)) (.const (.bool true)) (.op .index (.cons (.tup (.cons (.const (.str [97])) (.cons (.const (.str [98])) (.cons (.const (.str [97, 46, 98])) .nil)))) (.cons (.op .mod (.cons (.op .fdiv (.cons (.var 4) (.cons (.op .pow (.cons (.const (.int 3)) (.cons (.var 20) .nil))) .nil))) (.cons (.const (.int 3)) .nil))) .nil)))) .nil))) .nil)))) (.seq (.assign 7 (.comp 21 (.rangeI (.cons (.const (.int 4)) .nil)) (.const (.bool true)) (.op .index (.cons (.const (.str [45, 43, 95, 61])) (.cons (.op .mod (.cons (.op .fdiv (.cons (.var 4) (.cons (.op .pow (.cons (.const (.int 4)) (.cons (.var 21) .nil))) .nil))) (.cons (.const (.int 4)) .nil))) .nil))))) (.seq (.assign 4 (.op .fdiv (.cons (.var 4) (.cons (.const (.int 7)) .nil)))) (.seq (.assignO 8 (.list .nil)) (.seq (.forE 5 (.rangeI (.cons (.const (.int 3)) .nil)) (.seq (.append 8 (.op .join (.cons (.const (.str [])) (.cons (.comp 22 (.rangeI (.cons (.op .mod (.cons (.var 4) (.cons (.const (.int 4)) .nil))) .nil)) (.const (.bool true)) (.op .index (.cons (.const (.str [97, 98])) (.cons (.op .mod (.cons (.op .fdiv (.cons (.var 4) (.cons (.op .pow (.cons (.const (.int 2)) (.cons (.var 22) .nil))) .nil))) (.cons (.const (.int 2)) .nil))) .nil)))) .nil)))) (.seq (.assign 4 (.op .fdiv (.cons (.var 4) (.cons (.const (.int 5)) .nil)))) .skip))) (.seq (.seq (.fz 8) (.append 2 (.tup (.cons (.var 6) (.cons (.var 7) (.cons (.var 8) .nil)))))) .skip)))))))) (.seq (.assign 9 (.op .add (.cons (.op .abs (.cons (.op .sum (.cons (.op .slice3 (.cons (.var 0) (.cons (.const (.int 5)) (.cons (.const .none) (.cons (.const (.int 6)) .nil))))) .nil)) .nil)) (.cons (.const (.int 1234)) .nil)))) (.seq (.forE 3 (.rangeI (.cons (.const (.int 5)) .nil)) (.seq (.assign3 6 7 8 (.op .index (.cons (.var 2) (.cons (.var 3) .nil)))) (.seq (.seq (.fz 8) (.assign 10 (.call 4 (.cons (.var 6) (.cons (.call 32 (.cons (.var 7) (.cons (.var 8) .nil))) .nil))))) (.seq (.seq (.fz 8) (.ite (.or (.op .ne (.cons (.call 6 (.cons (.var 10) .nil)) (.cons (.var 6) .nil))) (.op .ne (.cons (.call 8 (.cons (.var 10) .nil)) (.cons (.call 32 (.cons (.var 7) (.cons (.var 8) .nil))) .nil)))) (.seq (.ret (.const (.bool false))) .skip) .skip)) (.seq (.forE 11 (.rangeI (.cons (.const (.int 5)) .nil)) (.seq (.assignO 12 (.op .listOf (.cons (.op .index (.cons (.op .index (.cons (.var 2) (.cons (.var 11) .nil))) (.cons (.const (.int 1)) .nil))) .nil))) (.seq (.ite (.op .eq (.cons (.op .mod (.cons (.op .add (.cons (.var 11) (.cons (.var 3) .nil))) (.cons (.const (.int 2)) .nil))) (.cons (.const (.int 1)) .nil))) (.seq (.setItem 12 (.const (.int 3)) (.op .index (.cons (.const (.str [45, 43, 95, 61])) (.cons (.op .mod (.cons (.op .add (.cons (.op .strIndex (.cons (.const (.str [45, 43, 95, 61])) (.cons (.op .index (.cons (.var 12) (.cons (.const (.int 3)) .nil))) .nil))) (.cons (.const (.int 1)) .nil))) (.cons (.const (.int 4)) .nil))) .nil)))) .skip) .skip) (.seq (.seq (.fz 12) (.assign 13 (.call 1 (.cons (.call 32 (.cons (.var 12) (.cons (.op .mul (.cons (.list (.cons (.const (.str [42])) .nil)) (.cons (.const (.int 3)) .nil))) .nil))) (.cons (.var 1) (.cons (.const (.str [46])) .nil)))))) (.seq (.assign 14 (.call 31 (.cons (.var 13) (.cons (.var 1) (.cons (.call 8 (.cons (.var 10) .nil)) .nil))))) (.seq (.ite (.op .ne (.cons (.op .isnot (.cons (.var 14) (.cons (.const .none) .nil))) (.cons (.op .eq (.cons (.var 12) (.cons (.var 7) .nil))) .nil))) (.seq (.ret (.const (.bool false))) .skip) .skip) (.seq (.ite (.op .is_ (.cons (.var 14) (.cons (.const .none) .nil))) (.seq .cont .skip) .skip) (.seq (.ite (.op .ne (.cons (.var 14) (.cons (.var 8) .nil))) (.seq (.ret (.const (.bool false))) .skip) .skip) (.seq (.assign 15 (.comp 23 (.rangeI (.cons (.const (.int 4)) .nil)) (.const (.bool true)) (.op .index (.cons (.const (.str [45, 43, 95, 61])) (.cons (.op .mod (.cons (.op .fdiv (.cons (.var 9) (.cons (.op .pow (.cons (.const (.int 4)) (.cons (.op .add (.cons (.var 23) (.cons (.var 11) .nil))) .nil))) .nil))) (.cons (.const (.int 4)) .nil))) .nil))))) (.seq (.assign 16 (.op .add (.cons (.const (.str [47])) (.cons (.op .join (.cons (.const (.str [47])) (.cons (.comp 24 (.rangeI (.cons (.op .mod (.cons (.var 11) (.cons (.const (.int 3)) .nil))) .nil)) (.const (.bool true)) (.op .index (.cons (.const (.str [97, 98])) (.cons (.op .mod (.cons (.op .fdiv (.cons (.var 9) (.cons (.op .pow (.cons (.const (.int 2)) (.cons (.var 24) .nil))) .nil))) (.cons (.const (.int 2)) .nil))) .nil)))) .nil))) .nil)))) (.seq (.assign 17 (.call 4 (.cons (.var 16) (.cons (.call 32 (.cons (.var 15) (.cons (.op .slice3 (.cons (.var 14) (.cons (.const .none) (.cons (.const .none) (.cons (.op .neg (.cons (.const (.int 1)) .nil)) .nil))))) .nil))) .nil)))) (.seq (.assign 18 (.call 31 (.cons (.call 1 (.cons (.call 32 (.cons (.var 15) (.cons (.op .mul (.cons (.list (.cons (.const (.str [42])) .nil)) (.cons (.const (.int 3)) .nil))) .nil))) (.cons (.var 1) (.cons (.const (.str [46])) .nil)))) (.cons (.var 1) (.cons (.call 8 (.cons (.var 17) .nil)) .nil))))) (.seq (.ite (.op .ne (.cons (.var 18) (.cons (.op .slice3 (.cons (.var 8) (.cons (.const .none) (.cons (.const .none) (.cons (.op .neg (.cons (.const (.int 1)) .nil)) .nil))))) .nil))) (.seq (.ret (.const (.bool false))) .skip) .skip) (.seq (.ite (.and (.op .ne (.cons (.var 15) (.cons (.var 7) .nil))) (.op .isnot (.cons (.call 31 (.cons (.var 13) (.cons (.var 1) (.cons (.call 8 (.cons (.var 17) .nil)) .nil)))) (.cons (.const .none) .nil)))) (.seq (.ret (.const (.bool false))) .skip) .skip) (.seq (.assign 19 (.call 4 (.cons (.call 6 (.cons (.var 17) .nil)) (.cons (.call 11 (.cons (.var 6) (.cons (.call 6 (.cons (.var 17) .nil)) .nil))) .nil)))) (.seq (.seq (.fz 12) (.ite (.or (.op .ne (.cons (.call 9 (.cons (.var 19) .nil)) (.cons (.var 6) .nil))) (.op .ne (.cons (.call 4 (.cons (.call 9 (.cons (.var 19) .nil)) (.cons (.call 32 (.cons (.var 12) (.cons (.op .slice3 (.cons (.var 18) (.cons (.const .none) (.cons (.const .none) (.cons (.op .neg (.cons (.const (.int 1)) .nil)) .nil))))) .nil))) .nil))) (.cons (.var 10) .nil)))) (.seq (.ret (.const (.bool false))) .skip) .skip)) .skip)))))))))))))))) .skip))))) (.seq (.ret (.const (.bool true))) .skip)))))
noncomputable def fn_law : Fn := { np := 1, va := false, ns := 25, body := s_law }
end Mine
end D07x
section W07x
open PySem PySem.Calls PyProof.Rows PySem.Builtin.Str
set_option maxHeartbeats 4000000
namespace Mine
theorem nn_QUESTION_MARK : (PySem.Str.ofString "QUESTION_MARK" == (PySem.Str.ofString "__classdict__")) = false ∧ (PySem.Str.ofString "QUESTION_MARK" == (PySem.Str.ofString "__debug__")) = false := ⟨rfl, rfl⟩
theorem nn_STAR : (PySem.Str.ofString "STAR" == (PySem.Str.ofString "__classdict__")) = false ∧ (PySem.Str.ofString "STAR" == (PySem.Str.ofString "__debug__")) = false := ⟨rfl, rfl⟩
theorem nn_a : (PySem.Str.ofString "a" == (PySem.Str.ofString "__classdict__")) = false ∧ (PySem.Str.ofString "a" == (PySem.Str.ofString "__debug__")) = false := ⟨rfl, rfl⟩
theorem nn_add : (PySem.Str.ofString "add" == (PySem.Str.ofString "__classdict__")) = false ∧ (PySem.Str.ofString "add" == (PySem.Str.ofString "__debug__")) = false := ⟨rfl, rfl⟩
theorem nn_again : (PySem.Str.ofString "again" == (PySem.Str.ofString "__classdict__")) = false ∧ (PySem.Str.ofString "again" == (PySem.Str.ofString "__debug__")) = false := ⟨rfl, rfl⟩
theorem nn_at : (PySem.Str.ofString "at" == (PySem.Str.ofString "__classdict__")) = false ∧ (PySem.Str.ofString "at" == (PySem.Str.ofString "__debug__")) = false := ⟨rfl, rfl⟩
theorem nn_b : (PySem.Str.ofString "b" == (PySem.Str.ofString "__classdict__")) = false ∧ (PySem.Str.ofString "b" == (PySem.Str.ofString "__debug__")) = false := ⟨rfl, rfl⟩
theorem nn_below : (PySem.Str.ofString "below" == (PySem.Str.ofString "__classdict__")) = false ∧ (PySem.Str.ofString "below" == (PySem.Str.ofString "__debug__")) = false := ⟨rfl, rfl⟩
theorem nn_c : (PySem.Str.ofString "c" == (PySem.Str.ofString "__classdict__")) = false ∧ (PySem.Str.ofString "c" == (PySem.Str.ofString "__debug__")) = false := ⟨rfl, rfl⟩
theorem nn_comp : (PySem.Str.ofString "comp" == (PySem.Str.ofString "__classdict__")) = false ∧ (PySem.Str.ofString "comp" == (PySem.Str.ofString "__debug__")) = false := ⟨rfl, rfl⟩
theorem nn_comps : (PySem.Str.ofString "comps" == (PySem.Str.ofString "__classdict__")) = false ∧ (PySem.Str.ofString "comps" == (PySem.Str.ofString "__debug__")) = false := ⟨rfl, rfl⟩
theorem nn_curdir : (PySem.Str.ofString "curdir" == (PySem.Str.ofString "__classdict__")) = false ∧ (PySem.Str.ofString "curdir" == (PySem.Str.ofString "__debug__")) = false := ⟨rfl, rfl⟩
theorem nn_dot : (PySem.Str.ofString "dot" == (PySem.Str.ofString "__classdict__")) = false ∧ (PySem.Str.ofString "dot" == (PySem.Str.ofString "__debug__")) = false := ⟨rfl, rfl⟩
theorem nn_dotdot : (PySem.Str.ofString "dotdot" == (PySem.Str.ofString "__classdict__")) = false ∧ (PySem.Str.ofString "dotdot" == (PySem.Str.ofString "__debug__")) = false := ⟨rfl, rfl⟩
theorem nn_empty : (PySem.Str.ofString "empty" == (PySem.Str.ofString "__classdict__")) = false ∧ (PySem.Str.ofString "empty" == (PySem.Str.ofString "__debug__")) = false := ⟨rfl, rfl⟩
theorem nn_files : (PySem.Str.ofString "files" == (PySem.Str.ofString "__classdict__")) = false ∧ (PySem.Str.ofString "files" == (PySem.Str.ofString "__debug__")) = false := ⟨rfl, rfl⟩
theorem nn_folder : (PySem.Str.ofString "folder" == (PySem.Str.ofString "__classdict__")) = false ∧ (PySem.Str.ofString "folder" == (PySem.Str.ofString "__debug__")) = false := ⟨rfl, rfl⟩
theorem nn_fresh : (PySem.Str.ofString "fresh" == (PySem.Str.ofString "__classdict__")) = false ∧ (PySem.Str.ofString "fresh" == (PySem.Str.ofString "__debug__")) = false := ⟨rfl, rfl⟩
theorem nn_head : (PySem.Str.ofString "head" == (PySem.Str.ofString "__classdict__")) = false ∧ (PySem.Str.ofString "head" == (PySem.Str.ofString "__debug__")) = false := ⟨rfl, rfl⟩
theorem nn_i : (PySem.Str.ofString "i" == (PySem.Str.ofString "__classdict__")) = false ∧ (PySem.Str.ofString "i" == (PySem.Str.ofString "__debug__")) = false := ⟨rfl, rfl⟩
theorem nn_initial_slashes : (PySem.Str.ofString "initial_slashes" == (PySem.Str.ofString "__classdict__")) = false ∧ (PySem.Str.ofString "initial_slashes" == (PySem.Str.ofString "__debug__")) = false := ⟨rfl, rfl⟩
theorem nn_k : (PySem.Str.ofString "k" == (PySem.Str.ofString "__classdict__")) = false ∧ (PySem.Str.ofString "k" == (PySem.Str.ofString "__debug__")) = false := ⟨rfl, rfl⟩
theorem nn_kind : (PySem.Str.ofString "kind" == (PySem.Str.ofString "__classdict__")) = false ∧ (PySem.Str.ofString "kind" == (PySem.Str.ofString "__debug__")) = false := ⟨rfl, rfl⟩
theorem nn_left : (PySem.Str.ofString "left" == (PySem.Str.ofString "__classdict__")) = false ∧ (PySem.Str.ofString "left" == (PySem.Str.ofString "__debug__")) = false := ⟨rfl, rfl⟩
theorem nn_m : (PySem.Str.ofString "m" == (PySem.Str.ofString "__classdict__")) = false ∧ (PySem.Str.ofString "m" == (PySem.Str.ofString "__debug__")) = false := ⟨rfl, rfl⟩
theorem nn_marks : (PySem.Str.ofString "marks" == (PySem.Str.ofString "__classdict__")) = false ∧ (PySem.Str.ofString "marks" == (PySem.Str.ofString "__debug__")) = false := ⟨rfl, rfl⟩
theorem nn_moved : (PySem.Str.ofString "moved" == (PySem.Str.ofString "__classdict__")) = false ∧ (PySem.Str.ofString "moved" == (PySem.Str.ofString "__debug__")) = false := ⟨rfl, rfl⟩
theorem nn_n : (PySem.Str.ofString "n" == (PySem.Str.ofString "__classdict__")) = false ∧ (PySem.Str.ofString "n" == (PySem.Str.ofString "__debug__")) = false := ⟨rfl, rfl⟩
theorem nn_name : (PySem.Str.ofString "name" == (PySem.Str.ofString "__classdict__")) = false ∧ (PySem.Str.ofString "name" == (PySem.Str.ofString "__debug__")) = false := ⟨rfl, rfl⟩
theorem nn_new_comps : (PySem.Str.ofString "new_comps" == (PySem.Str.ofString "__classdict__")) = false ∧ (PySem.Str.ofString "new_comps" == (PySem.Str.ofString "__debug__")) = false := ⟨rfl, rfl⟩
theorem nn_others : (PySem.Str.ofString "others" == (PySem.Str.ofString "__classdict__")) = false ∧ (PySem.Str.ofString "others" == (PySem.Str.ofString "__debug__")) = false := ⟨rfl, rfl⟩
theorem nn_out : (PySem.Str.ofString "out" == (PySem.Str.ofString "__classdict__")) = false ∧ (PySem.Str.ofString "out" == (PySem.Str.ofString "__debug__")) = false := ⟨rfl, rfl⟩
theorem nn_p : (PySem.Str.ofString "p" == (PySem.Str.ofString "__classdict__")) = false ∧ (PySem.Str.ofString "p" == (PySem.Str.ofString "__debug__")) = false := ⟨rfl, rfl⟩
theorem nn_pardir : (PySem.Str.ofString "pardir" == (PySem.Str.ofString "__classdict__")) = false ∧ (PySem.Str.ofString "pardir" == (PySem.Str.ofString "__debug__")) = false := ⟨rfl, rfl⟩
theorem nn_parts : (PySem.Str.ofString "parts" == (PySem.Str.ofString "__classdict__")) = false ∧ (PySem.Str.ofString "parts" == (PySem.Str.ofString "__debug__")) = false := ⟨rfl, rfl⟩
theorem nn_pat : (PySem.Str.ofString "pat" == (PySem.Str.ofString "__classdict__")) = false ∧ (PySem.Str.ofString "pat" == (PySem.Str.ofString "__debug__")) = false := ⟨rfl, rfl⟩
theorem nn_path : (PySem.Str.ofString "path" == (PySem.Str.ofString "__classdict__")) = false ∧ (PySem.Str.ofString "path" == (PySem.Str.ofString "__debug__")) = false := ⟨rfl, rfl⟩
theorem nn_path_list : (PySem.Str.ofString "path_list" == (PySem.Str.ofString "__classdict__")) = false ∧ (PySem.Str.ofString "path_list" == (PySem.Str.ofString "__debug__")) = false := ⟨rfl, rfl⟩
theorem nn_path_tail : (PySem.Str.ofString "path_tail" == (PySem.Str.ofString "__classdict__")) = false ∧ (PySem.Str.ofString "path_tail" == (PySem.Str.ofString "__debug__")) = false := ⟨rfl, rfl⟩
theorem nn_pattern : (PySem.Str.ofString "pattern" == (PySem.Str.ofString "__classdict__")) = false ∧ (PySem.Str.ofString "pattern" == (PySem.Str.ofString "__debug__")) = false := ⟨rfl, rfl⟩
theorem nn_q : (PySem.Str.ofString "q" == (PySem.Str.ofString "__classdict__")) = false ∧ (PySem.Str.ofString "q" == (PySem.Str.ofString "__debug__")) = false := ⟨rfl, rfl⟩
theorem nn_rel_list : (PySem.Str.ofString "rel_list" == (PySem.Str.ofString "__classdict__")) = false ∧ (PySem.Str.ofString "rel_list" == (PySem.Str.ofString "__debug__")) = false := ⟨rfl, rfl⟩
theorem nn_res : (PySem.Str.ofString "res" == (PySem.Str.ofString "__classdict__")) = false ∧ (PySem.Str.ofString "res" == (PySem.Str.ofString "__debug__")) = false := ⟨rfl, rfl⟩
theorem nn_runs : (PySem.Str.ofString "runs" == (PySem.Str.ofString "__classdict__")) = false ∧ (PySem.Str.ofString "runs" == (PySem.Str.ofString "__debug__")) = false := ⟨rfl, rfl⟩
theorem nn_s1 : (PySem.Str.ofString "s1" == (PySem.Str.ofString "__classdict__")) = false ∧ (PySem.Str.ofString "s1" == (PySem.Str.ofString "__debug__")) = false := ⟨rfl, rfl⟩
theorem nn_s2 : (PySem.Str.ofString "s2" == (PySem.Str.ofString "__classdict__")) = false ∧ (PySem.Str.ofString "s2" == (PySem.Str.ofString "__debug__")) = false := ⟨rfl, rfl⟩
theorem nn_script : (PySem.Str.ofString "script" == (PySem.Str.ofString "__classdict__")) = false ∧ (PySem.Str.ofString "script" == (PySem.Str.ofString "__debug__")) = false := ⟨rfl, rfl⟩
theorem nn_sep : (PySem.Str.ofString "sep" == (PySem.Str.ofString "__classdict__")) = false ∧ (PySem.Str.ofString "sep" == (PySem.Str.ofString "__debug__")) = false := ⟨rfl, rfl⟩
theorem nn_sought : (PySem.Str.ofString "sought" == (PySem.Str.ofString "__classdict__")) = false ∧ (PySem.Str.ofString "sought" == (PySem.Str.ofString "__debug__")) = false := ⟨rfl, rfl⟩
theorem nn_star : (PySem.Str.ofString "star" == (PySem.Str.ofString "__classdict__")) = false ∧ (PySem.Str.ofString "star" == (PySem.Str.ofString "__debug__")) = false := ⟨rfl, rfl⟩
theorem nn_start : (PySem.Str.ofString "start" == (PySem.Str.ofString "__classdict__")) = false ∧ (PySem.Str.ofString "start" == (PySem.Str.ofString "__debug__")) = false := ⟨rfl, rfl⟩
theorem nn_start_list : (PySem.Str.ofString "start_list" == (PySem.Str.ofString "__classdict__")) = false ∧ (PySem.Str.ofString "start_list" == (PySem.Str.ofString "__debug__")) = false := ⟨rfl, rfl⟩
theorem nn_start_tail : (PySem.Str.ofString "start_tail" == (PySem.Str.ofString "__classdict__")) = false ∧ (PySem.Str.ofString "start_tail" == (PySem.Str.ofString "__debug__")) = false := ⟨rfl, rfl⟩
theorem nn_told : (PySem.Str.ofString "told" == (PySem.Str.ofString "__classdict__")) = false ∧ (PySem.Str.ofString "told" == (PySem.Str.ofString "__debug__")) = false := ⟨rfl, rfl⟩
theorem nn_way : (PySem.Str.ofString "way" == (PySem.Str.ofString "__classdict__")) = false ∧ (PySem.Str.ofString "way" == (PySem.Str.ofString "__debug__")) = false := ⟨rfl, rfl⟩
noncomputable abbrev fs07 : List (Str × Nat) := [(PySem.Str.ofString "escape", 0), (PySem.Str.ofString "_translate", 1), (PySem.Str.ofString "fspath", 2), (PySem.Str.ofString "_get_sep", 3), (PySem.Str.ofString "join", 4), (PySem.Str.ofString "dirname", 6), (PySem.Str.ofString "splitroot", 7), (PySem.Str.ofString "basename", 8), (PySem.Str.ofString "normpath", 9), (PySem.Str.ofString "abspath", 10), (PySem.Str.ofString "relpath", 11), (PySem.Str.ofString "commonprefix", 12), (PySem.Str.ofString "_law_runs", 31), (PySem.Str.ofString "_law_laid", 32), (PySem.Str.ofString "law", 35)]
noncomputable abbrev bs07 : List Str := [PySem.Str.ofString "str", PySem.Str.ofString "bytes", PySem.Str.ofString "list", PySem.Str.ofString "tuple", PySem.Str.ofString "len", PySem.Str.ofString "abs", PySem.Str.ofString "sum", PySem.Str.ofString "isinstance", PySem.Str.ofString "issubclass", PySem.Str.ofString "type", PySem.Str.ofString "range", PySem.Str.ofString "min", PySem.Str.ofString "max", PySem.Str.ofString "sorted", PySem.Str.ofString "map", PySem.Str.ofString "enumerate"]
noncomputable abbrev lamPos07 : Pos := ⟨61, 39, 61, 76⟩
noncomputable abbrev qs07 : List (Pos × Str) := [(lamPos07, (PySem.Str.ofString "_translate.<locals>.") ++ "<lambda>")]
noncomputable def sc_escape : Sc := { kinds := [(PySem.Str.ofString "pattern", .local), (PySem.Str.ofString "isinstance", .globalImplicit), (PySem.Str.ofString "str", .globalImplicit), (PySem.Str.ofString "_special_chars_map", .globalImplicit)], vars := [(PySem.Str.ofString "pattern", 0)] }
theorem k_escape_str  : sc_escape.kinds.lookup (PySem.Str.ofString "str") = some .globalImplicit := rfl
theorem v_escape_pattern  : sc_escape.vars.lookup (PySem.Str.ofString "pattern") = some 0 := rfl
theorem k_escape_isinstance  : sc_escape.kinds.lookup (PySem.Str.ofString "isinstance") = some .globalImplicit := rfl
theorem k_escape_special_chars_map  : sc_escape.kinds.lookup (PySem.Str.ofString "_special_chars_map") = some .globalImplicit := rfl
theorem snd_escape {cx : XCx} (N : GN cx fs07 bs07) (TG : TabG cx) (sp : cx.mg (PySem.Str.ofString "_special_chars_map") = some (.ref TG.d)) : SoundSs cx sc_escape (nthBody PySem.Challenge.pw_dn0069_07 5) s_escape := by
  unfold s_escape
  exact (soundSs_cons (soundS_if (sound_callB k_escape_isinstance (N.b _ (.tail _ (.tail _ (.tail _ (.tail _ (.tail _ (.tail _ (.tail _ (.head _))))))))) (by decide) rfl (.builtin _) rfl (.cons (sound_var v_escape_pattern nn_pattern.1 nn_pattern.2) rfl (.cons (sound_tyname k_escape_str (N.b _ (.head _)) (by decide) rfl rfl) rfl .nil)) op_isInst) (soundSs_cons (soundS_ret (sound_translate TG rfl rfl (sound_var v_escape_pattern nn_pattern.1 nn_pattern.2) k_escape_special_chars_map sp rfl))
  soundSs_nil) soundSs_dead)
  soundSs_nil)
noncomputable def sc_translate7 (c : Addr) : Sc := { kinds := [(PySem.Str.ofString "pat", .local), (PySem.Str.ofString "STAR", .local), (PySem.Str.ofString "QUESTION_MARK", .local), (PySem.Str.ofString "res", .local), (PySem.Str.ofString "add", .local), (PySem.Str.ofString "i", .local), (PySem.Str.ofString "n", .local), (PySem.Str.ofString "c", .local), (PySem.Str.ofString "j", .local), (PySem.Str.ofString "stuff", .local), (PySem.Str.ofString "chunks", .local), (PySem.Str.ofString "k", .local), (PySem.Str.ofString "chunk", .local), (PySem.Str.ofString "len", .globalImplicit), (PySem.Str.ofString "range", .globalImplicit), (PySem.Str.ofString "_twin_re_1", .globalImplicit), (PySem.Str.ofString "escape", .globalImplicit)], vars := [(PySem.Str.ofString "pat", 0), (PySem.Str.ofString "STAR", 1), (PySem.Str.ofString "QUESTION_MARK", 2), (PySem.Str.ofString "res", 3), (PySem.Str.ofString "add", 4), (PySem.Str.ofString "i", 5), (PySem.Str.ofString "n", 6), (PySem.Str.ofString "c", 7), (PySem.Str.ofString "j", 8), (PySem.Str.ofString "stuff", 9), (PySem.Str.ofString "chunks", 10), (PySem.Str.ofString "k", 11), (PySem.Str.ofString "chunk", 12)], code := some (c, PySem.Str.ofString "_translate.<locals>.") }
theorem v_translate7_res  (c : Addr) : (sc_translate7 c).vars.lookup (PySem.Str.ofString "res") = some 3 := rfl
theorem k_translate7_res  (c : Addr) : (sc_translate7 c).kinds.lookup (PySem.Str.ofString "res") = some .local := rfl
theorem v_translate7_add  (c : Addr) : (sc_translate7 c).vars.lookup (PySem.Str.ofString "add") = some 4 := rfl
theorem k_translate7_add  (c : Addr) : (sc_translate7 c).kinds.lookup (PySem.Str.ofString "add") = some .local := rfl
theorem v_translate7_pat  (c : Addr) : (sc_translate7 c).vars.lookup (PySem.Str.ofString "pat") = some 0 := rfl
theorem k_translate7_len  (c : Addr) : (sc_translate7 c).kinds.lookup (PySem.Str.ofString "len") = some .globalImplicit := rfl
theorem v_translate7_i  (c : Addr) : (sc_translate7 c).vars.lookup (PySem.Str.ofString "i") = some 5 := rfl
theorem v_translate7_n  (c : Addr) : (sc_translate7 c).vars.lookup (PySem.Str.ofString "n") = some 6 := rfl
theorem k_translate7_i  (c : Addr) : (sc_translate7 c).kinds.lookup (PySem.Str.ofString "i") = some .local := rfl
theorem k_translate7_n  (c : Addr) : (sc_translate7 c).kinds.lookup (PySem.Str.ofString "n") = some .local := rfl
theorem v_translate7_c  (c : Addr) : (sc_translate7 c).vars.lookup (PySem.Str.ofString "c") = some 7 := rfl
theorem k_translate7_c  (c : Addr) : (sc_translate7 c).kinds.lookup (PySem.Str.ofString "c") = some .local := rfl
theorem v_translate7_STAR  (c : Addr) : (sc_translate7 c).vars.lookup (PySem.Str.ofString "STAR") = some 1 := rfl
theorem v_translate7_QUESTION_MARK  (c : Addr) : (sc_translate7 c).vars.lookup (PySem.Str.ofString "QUESTION_MARK") = some 2 := rfl
theorem k_translate7_escape  (c : Addr) : (sc_translate7 c).kinds.lookup (PySem.Str.ofString "escape") = some .globalImplicit := rfl
theorem snd_translate7 {cx : XCx} (N : GN cx fs07 bs07) (G : LamG cx) (PG : PatG cx) (tw : cx.mg (PySem.Str.ofString "_twin_re_1") = some (.ref PG.P)) (hq : G.qs = qs07) : SoundSs cx (sc_translate7 G.c) (nthBody PySem.Challenge.pw_dn0069_07 7) s_translate7 := by
  unfold s_translate7
  exact (soundSs_cons (soundS_assignO (v_translate7_res _) (nfree (k_translate7_res _)) (sound_list .nil) (fun _ _ _ => rfl))
  (soundSs_cons (soundS_alias (v_translate7_add _) (nfree (k_translate7_add _)) (v_translate7_res _) nn_res.1 nn_res.2)
  (soundSs_cons (soundS_swap2 (v_translate7_i _) (v_translate7_n _) (nfree (k_translate7_i _)) (nfree (k_translate7_n _)) (by decide) (sound_tup (.cons (sound_const rfl) rfl (.cons (sound_callB (k_translate7_len _) (N.b _ (.tail _ (.tail _ (.tail _ (.tail _ (.head _)))))) (by decide) rfl (.builtin _) rfl (.cons (sound_var (v_translate7_pat _) nn_pat.1 nn_pat.2) rfl .nil) op_len) rfl .nil))) (fun _ => rfl) (swapped2 (k_translate7_i _) (k_translate7_n _) rfl rfl rfl rfl rfl rfl))
  (soundSs_cons (soundS_while (sound_cmp (sound_var (v_translate7_i _) nn_i.1 nn_i.2) (sound_var (v_translate7_n _) nn_n.1 nn_n.2) op_lt rfl) (soundSs_cons (soundS_assign (v_translate7_c _) (nfree (k_translate7_c _)) (sound_index (sound_var (v_translate7_pat _) nn_pat.1 nn_pat.2) (sound_var (v_translate7_i _) nn_i.1 nn_i.2)) (fun _ _ _ => rfl))
  (soundSs_cons (soundS_assign (v_translate7_i _) (nfree (k_translate7_i _)) (sound_bin (sound_var (v_translate7_i _) nn_i.1 nn_i.2) (sound_const rfl) op_add) (fun _ _ _ => rfl))
  (soundSs_cons (soundS_if (sound_cmp (sound_var (v_translate7_c _) nn_c.1 nn_c.2) (sound_const rfl) op_eq rfl) (soundSs_cons (soundS_if (sound_bool (.or (sound_not (sound_var (v_translate7_res _) nn_res.1 nn_res.2)) (.one (sound_cmp (sound_index (sound_var (v_translate7_res _) nn_res.1 nn_res.2) (sound_un (sound_const rfl) op_neg (fun h => nomatch h))) (sound_var (v_translate7_STAR _) nn_STAR.1 nn_STAR.2) op_isnot rfl)))) (soundSs_cons (soundS_appendVia (v_translate7_add _) (v_translate7_res _) nn_add.1 nn_add.2 (sound_var (v_translate7_STAR _) nn_STAR.1 nn_STAR.2) rfl)
  soundSs_nil) soundSs_nil)
  soundSs_nil) (soundSs_cons (soundS_if (sound_cmp (sound_var (v_translate7_c _) nn_c.1 nn_c.2) (sound_const rfl) op_eq rfl) (soundSs_cons (soundS_appendVia (v_translate7_add _) (v_translate7_res _) nn_add.1 nn_add.2 (sound_var (v_translate7_QUESTION_MARK _) nn_QUESTION_MARK.1 nn_QUESTION_MARK.2) rfl)
  soundSs_nil) (soundSs_cons (soundS_if (sound_cmp (sound_var (v_translate7_c _) nn_c.1 nn_c.2) (sound_const rfl) op_eq rfl) soundSs_dead (soundSs_cons (soundS_appendVia (v_translate7_add _) (v_translate7_res _) nn_add.1 nn_add.2 (sound_call (k_translate7_escape _) (N.f _ 0 (.head _)) rfl (.cons (sound_var (v_translate7_c _) nn_c.1 nn_c.2) rfl .nil)) rfl)
  soundSs_nil))
  soundSs_nil))
  soundSs_nil))
  soundSs_nil))))
  (soundSs_cons (soundS_assert (sound_cmp (sound_var (v_translate7_i _) nn_i.1 nn_i.2) (sound_var (v_translate7_n _) nn_n.1 nn_n.2) op_eq rfl))
  (soundSs_cons (soundS_fz ⟨_, (v_translate7_res _)⟩ (soundS_ret (sound_var (v_translate7_res _) nn_res.1 nn_res.2)))
  soundSs_nil))))))
noncomputable def sc_fspath : Sc := { kinds := [(PySem.Str.ofString "path", .local), (PySem.Str.ofString "kind", .local), (PySem.Str.ofString "hook", .local), (PySem.Str.ofString "given", .local), (PySem.Str.ofString "type", .globalImplicit), (PySem.Str.ofString "issubclass", .globalImplicit), (PySem.Str.ofString "str", .globalImplicit), (PySem.Str.ofString "bytes", .globalImplicit), (PySem.Str.ofString "_abc_plain_meta", .globalImplicit), (PySem.Str.ofString "getattr", .globalImplicit), (PySem.Str.ofString "TypeError", .globalImplicit), (PySem.Str.ofString "_plain_name", .globalImplicit), (PySem.Str.ofString "_wall", .globalImplicit), (PySem.Str.ofString "len", .globalImplicit)], vars := [(PySem.Str.ofString "path", 0), (PySem.Str.ofString "kind", 1), (PySem.Str.ofString "hook", 2), (PySem.Str.ofString "given", 3)] }
theorem v_fspath_path  : sc_fspath.vars.lookup (PySem.Str.ofString "path") = some 0 := rfl
theorem k_fspath_type  : sc_fspath.kinds.lookup (PySem.Str.ofString "type") = some .globalImplicit := rfl
theorem v_fspath_kind  : sc_fspath.vars.lookup (PySem.Str.ofString "kind") = some 1 := rfl
theorem k_fspath_kind  : sc_fspath.kinds.lookup (PySem.Str.ofString "kind") = some .local := rfl
theorem k_fspath_bytes  : sc_fspath.kinds.lookup (PySem.Str.ofString "bytes") = some .globalImplicit := rfl
theorem k_fspath_str  : sc_fspath.kinds.lookup (PySem.Str.ofString "str") = some .globalImplicit := rfl
theorem k_fspath_issubclass  : sc_fspath.kinds.lookup (PySem.Str.ofString "issubclass") = some .globalImplicit := rfl
theorem snd_fspath {cx : XCx} (N : GN cx fs07 bs07) : SoundSs cx sc_fspath (nthBody PySem.Challenge.pw_dn0069_07 16) s_fspath := by
  unfold s_fspath
  exact (soundSs_cons (soundS_assign v_fspath_kind (nfree k_fspath_kind) (sound_callB k_fspath_type (N.b _ (.tail _ (.tail _ (.tail _ (.tail _ (.tail _ (.tail _ (.tail _ (.tail _ (.tail _ (.head _))))))))))) (by decide) rfl (.type _) rfl (.cons (sound_var v_fspath_path nn_path.1 nn_path.2) rfl .nil) op_tyOf) (fun _ _ _ => rfl))
  (soundSs_cons (soundS_if (sound_callB k_fspath_issubclass (N.b _ (.tail _ (.tail _ (.tail _ (.tail _ (.tail _ (.tail _ (.tail _ (.tail _ (.head _)))))))))) (by decide) rfl (.builtin _) rfl (.cons (sound_var v_fspath_kind nn_kind.1 nn_kind.2) rfl (.cons (sound_tup (.cons (sound_tyname k_fspath_str (N.b _ (.head _)) (by decide) rfl rfl) rfl (.cons (sound_tyname k_fspath_bytes (N.b _ (.tail _ (.head _))) (by decide) rfl rfl) rfl .nil))) rfl .nil)) op_isSub) (soundSs_cons (soundS_ret (sound_var v_fspath_path nn_path.1 nn_path.2))
  soundSs_nil) soundSs_nil)
  soundSs_dead))
noncomputable def sc_get_sep : Sc := { kinds := [(PySem.Str.ofString "path", .local), (PySem.Str.ofString "isinstance", .globalImplicit), (PySem.Str.ofString "bytes", .globalImplicit)], vars := [(PySem.Str.ofString "path", 0)] }
theorem k_get_sep_bytes  : sc_get_sep.kinds.lookup (PySem.Str.ofString "bytes") = some .globalImplicit := rfl
theorem v_get_sep_path  : sc_get_sep.vars.lookup (PySem.Str.ofString "path") = some 0 := rfl
theorem k_get_sep_isinstance  : sc_get_sep.kinds.lookup (PySem.Str.ofString "isinstance") = some .globalImplicit := rfl
theorem snd_get_sep {cx : XCx} (N : GN cx fs07 bs07) : SoundSs cx sc_get_sep (nthBody PySem.Challenge.pw_dn0069_07 21) s_get_sep := by
  unfold s_get_sep
  exact (soundSs_cons (soundS_if (sound_callB k_get_sep_isinstance (N.b _ (.tail _ (.tail _ (.tail _ (.tail _ (.tail _ (.tail _ (.tail _ (.head _))))))))) (by decide) rfl (.builtin _) rfl (.cons (sound_var v_get_sep_path nn_path.1 nn_path.2) rfl (.cons (sound_tyname k_get_sep_bytes (N.b _ (.tail _ (.head _))) (by decide) rfl rfl) rfl .nil)) op_isInst) soundSs_dead (soundSs_cons (soundS_ret (sound_const rfl))
  soundSs_nil))
  soundSs_nil)
noncomputable def sc_join : Sc := { kinds := [(PySem.Str.ofString "a", .local), (PySem.Str.ofString "p", .local), (PySem.Str.ofString "sep", .local), (PySem.Str.ofString "path", .local), (PySem.Str.ofString "b", .local), (PySem.Str.ofString "fspath", .globalImplicit), (PySem.Str.ofString "_get_sep", .globalImplicit), (PySem.Str.ofString "TypeError", .globalImplicit), (PySem.Str.ofString "AttributeError", .globalImplicit), (PySem.Str.ofString "BytesWarning", .globalImplicit), (PySem.Str.ofString "_check_arg_types", .globalImplicit)], vars := [(PySem.Str.ofString "a", 0), (PySem.Str.ofString "p", 1), (PySem.Str.ofString "sep", 2), (PySem.Str.ofString "path", 3), (PySem.Str.ofString "b", 4)] }
theorem v_join_a  : sc_join.vars.lookup (PySem.Str.ofString "a") = some 0 := rfl
theorem k_join_fspath  : sc_join.kinds.lookup (PySem.Str.ofString "fspath") = some .globalImplicit := rfl
theorem k_join_a  : sc_join.kinds.lookup (PySem.Str.ofString "a") = some .local := rfl
theorem k_join_get_sep  : sc_join.kinds.lookup (PySem.Str.ofString "_get_sep") = some .globalImplicit := rfl
theorem v_join_sep  : sc_join.vars.lookup (PySem.Str.ofString "sep") = some 2 := rfl
theorem k_join_sep  : sc_join.kinds.lookup (PySem.Str.ofString "sep") = some .local := rfl
theorem v_join_path  : sc_join.vars.lookup (PySem.Str.ofString "path") = some 3 := rfl
theorem k_join_path  : sc_join.kinds.lookup (PySem.Str.ofString "path") = some .local := rfl
theorem v_join_p  : sc_join.vars.lookup (PySem.Str.ofString "p") = some 1 := rfl
theorem v_join_b  : sc_join.vars.lookup (PySem.Str.ofString "b") = some 4 := rfl
theorem k_join_b  : sc_join.kinds.lookup (PySem.Str.ofString "b") = some .local := rfl
theorem snd_join {cx : XCx} (N : GN cx fs07 bs07) : SoundSs cx sc_join (nthBody PySem.Challenge.pw_dn0069_07 22) s_join := by
  unfold s_join
  exact (soundSs_cons (soundS_assign v_join_a (nfree k_join_a) (sound_call k_join_fspath (N.f _ 2 (.tail _ (.tail _ (.head _)))) rfl (.cons (sound_var v_join_a nn_a.1 nn_a.2) rfl .nil)) (fun _ _ _ => rfl))
  (soundSs_cons (soundS_assign v_join_sep (nfree k_join_sep) (sound_call k_join_get_sep (N.f _ 3 (.tail _ (.tail _ (.tail _ (.head _))))) rfl (.cons (sound_var v_join_a nn_a.1 nn_a.2) rfl .nil)) (fun _ _ _ => rfl))
  (soundSs_cons (soundS_assign v_join_path (nfree k_join_path) (sound_var v_join_a nn_a.1 nn_a.2) (fun _ _ _ => rfl))
  (soundSs_cons (soundS_try (soundSs_cons (soundS_for v_join_b (nfree k_join_b) (soundI_seq (sound_var v_join_p nn_p.1 nn_p.2)) (soundSs_cons (soundS_assign v_join_b (nfree k_join_b) (sound_call k_join_fspath (N.f _ 2 (.tail _ (.tail _ (.head _)))) rfl (.cons (sound_var v_join_b nn_b.1 nn_b.2) rfl .nil)) (fun _ _ _ => rfl))
  (soundSs_cons (soundS_if (sound_bool (.or (m_startswith rfl rfl (by decide) (sound_var v_join_b nn_b.1 nn_b.2) (.cons (sound_var v_join_sep nn_sep.1 nn_sep.2) rfl .nil)) (.one (sound_not (sound_var v_join_path nn_path.1 nn_path.2))))) (soundSs_cons (soundS_assign v_join_path (nfree k_join_path) (sound_var v_join_b nn_b.1 nn_b.2) (fun _ _ _ => rfl))
  soundSs_nil) (soundSs_cons (soundS_if (m_endswith rfl rfl (by decide) (sound_var v_join_path nn_path.1 nn_path.2) (.cons (sound_var v_join_sep nn_sep.1 nn_sep.2) rfl .nil)) (soundSs_cons (soundS_aug v_join_path (nfree k_join_path) nn_path.1 (sound_var v_join_b nn_b.1 nn_b.2))
  soundSs_nil) (soundSs_cons (soundS_aug v_join_path (nfree k_join_path) nn_path.1 (sound_bin (sound_var v_join_sep nn_sep.1 nn_sep.2) (sound_var v_join_b nn_b.1 nn_b.2) op_add))
  soundSs_nil))
  soundSs_nil))
  soundSs_nil)) (fun _ _ => rfl))
  soundSs_nil))
  (soundSs_cons (soundS_ret (sound_var v_join_path nn_path.1 nn_path.2))
  soundSs_nil)))))
noncomputable def sc_dirname : Sc := { kinds := [(PySem.Str.ofString "p", .local), (PySem.Str.ofString "sep", .local), (PySem.Str.ofString "i", .local), (PySem.Str.ofString "head", .local), (PySem.Str.ofString "fspath", .globalImplicit), (PySem.Str.ofString "_get_sep", .globalImplicit), (PySem.Str.ofString "len", .globalImplicit)], vars := [(PySem.Str.ofString "p", 0), (PySem.Str.ofString "sep", 1), (PySem.Str.ofString "i", 2), (PySem.Str.ofString "head", 3)] }
theorem v_dirname_p  : sc_dirname.vars.lookup (PySem.Str.ofString "p") = some 0 := rfl
theorem k_dirname_fspath  : sc_dirname.kinds.lookup (PySem.Str.ofString "fspath") = some .globalImplicit := rfl
theorem k_dirname_p  : sc_dirname.kinds.lookup (PySem.Str.ofString "p") = some .local := rfl
theorem k_dirname_get_sep  : sc_dirname.kinds.lookup (PySem.Str.ofString "_get_sep") = some .globalImplicit := rfl
theorem v_dirname_sep  : sc_dirname.vars.lookup (PySem.Str.ofString "sep") = some 1 := rfl
theorem k_dirname_sep  : sc_dirname.kinds.lookup (PySem.Str.ofString "sep") = some .local := rfl
theorem v_dirname_i  : sc_dirname.vars.lookup (PySem.Str.ofString "i") = some 2 := rfl
theorem k_dirname_i  : sc_dirname.kinds.lookup (PySem.Str.ofString "i") = some .local := rfl
theorem v_dirname_head  : sc_dirname.vars.lookup (PySem.Str.ofString "head") = some 3 := rfl
theorem k_dirname_head  : sc_dirname.kinds.lookup (PySem.Str.ofString "head") = some .local := rfl
theorem k_dirname_len  : sc_dirname.kinds.lookup (PySem.Str.ofString "len") = some .globalImplicit := rfl
theorem snd_dirname {cx : XCx} (N : GN cx fs07 bs07) : SoundSs cx sc_dirname (nthBody PySem.Challenge.pw_dn0069_07 25) s_dirname := by
  unfold s_dirname
  exact (soundSs_cons (soundS_assign v_dirname_p (nfree k_dirname_p) (sound_call k_dirname_fspath (N.f _ 2 (.tail _ (.tail _ (.head _)))) rfl (.cons (sound_var v_dirname_p nn_p.1 nn_p.2) rfl .nil)) (fun _ _ _ => rfl))
  (soundSs_cons (soundS_assign v_dirname_sep (nfree k_dirname_sep) (sound_call k_dirname_get_sep (N.f _ 3 (.tail _ (.tail _ (.tail _ (.head _))))) rfl (.cons (sound_var v_dirname_p nn_p.1 nn_p.2) rfl .nil)) (fun _ _ _ => rfl))
  (soundSs_cons (soundS_assign v_dirname_i (nfree k_dirname_i) (sound_bin (m_rfind rfl rfl (by decide) (sound_var v_dirname_p nn_p.1 nn_p.2) (.cons (sound_var v_dirname_sep nn_sep.1 nn_sep.2) rfl .nil)) (sound_const rfl) op_add) (fun _ _ _ => rfl))
  (soundSs_cons (soundS_assign v_dirname_head (nfree k_dirname_head) (sound_slice (sound_var v_dirname_p nn_p.1 nn_p.2) .no (.yes (sound_var v_dirname_i nn_i.1 nn_i.2))) (fun _ _ _ => rfl))
  (soundSs_cons (soundS_if (sound_bool (.and (sound_var v_dirname_head nn_head.1 nn_head.2) (.one (sound_cmp (sound_var v_dirname_head nn_head.1 nn_head.2) (sound_bin (sound_var v_dirname_sep nn_sep.1 nn_sep.2) (sound_callB k_dirname_len (N.b _ (.tail _ (.tail _ (.tail _ (.tail _ (.head _)))))) (by decide) rfl (.builtin _) rfl (.cons (sound_var v_dirname_head nn_head.1 nn_head.2) rfl .nil) op_len) op_mul) op_ne rfl)))) (soundSs_cons (soundS_assign v_dirname_head (nfree k_dirname_head) (m_rstrip rfl rfl (by decide) (sound_var v_dirname_head nn_head.1 nn_head.2) (.cons (sound_var v_dirname_sep nn_sep.1 nn_sep.2) rfl .nil)) (fun _ _ _ => rfl))
  soundSs_nil) soundSs_nil)
  (soundSs_cons (soundS_ret (sound_var v_dirname_head nn_head.1 nn_head.2))
  soundSs_nil))))))
noncomputable def sc_splitroot : Sc := { kinds := [(PySem.Str.ofString "p", .local), (PySem.Str.ofString "sep", .local), (PySem.Str.ofString "empty", .local), (PySem.Str.ofString "fspath", .globalImplicit), (PySem.Str.ofString "isinstance", .globalImplicit), (PySem.Str.ofString "bytes", .globalImplicit)], vars := [(PySem.Str.ofString "p", 0), (PySem.Str.ofString "sep", 1), (PySem.Str.ofString "empty", 2)] }
theorem v_splitroot_p  : sc_splitroot.vars.lookup (PySem.Str.ofString "p") = some 0 := rfl
theorem k_splitroot_fspath  : sc_splitroot.kinds.lookup (PySem.Str.ofString "fspath") = some .globalImplicit := rfl
theorem k_splitroot_p  : sc_splitroot.kinds.lookup (PySem.Str.ofString "p") = some .local := rfl
theorem k_splitroot_bytes  : sc_splitroot.kinds.lookup (PySem.Str.ofString "bytes") = some .globalImplicit := rfl
theorem k_splitroot_isinstance  : sc_splitroot.kinds.lookup (PySem.Str.ofString "isinstance") = some .globalImplicit := rfl
theorem v_splitroot_sep  : sc_splitroot.vars.lookup (PySem.Str.ofString "sep") = some 1 := rfl
theorem k_splitroot_sep  : sc_splitroot.kinds.lookup (PySem.Str.ofString "sep") = some .local := rfl
theorem v_splitroot_empty  : sc_splitroot.vars.lookup (PySem.Str.ofString "empty") = some 2 := rfl
theorem k_splitroot_empty  : sc_splitroot.kinds.lookup (PySem.Str.ofString "empty") = some .local := rfl
theorem snd_splitroot {cx : XCx} (N : GN cx fs07 bs07) : SoundSs cx sc_splitroot (nthBody PySem.Challenge.pw_dn0069_07 23) s_splitroot := by
  unfold s_splitroot
  exact (soundSs_cons (soundS_assign v_splitroot_p (nfree k_splitroot_p) (sound_call k_splitroot_fspath (N.f _ 2 (.tail _ (.tail _ (.head _)))) rfl (.cons (sound_var v_splitroot_p nn_p.1 nn_p.2) rfl .nil)) (fun _ _ _ => rfl))
  (soundSs_cons (soundS_if (sound_callB k_splitroot_isinstance (N.b _ (.tail _ (.tail _ (.tail _ (.tail _ (.tail _ (.tail _ (.tail _ (.head _))))))))) (by decide) rfl (.builtin _) rfl (.cons (sound_var v_splitroot_p nn_p.1 nn_p.2) rfl (.cons (sound_tyname k_splitroot_bytes (N.b _ (.tail _ (.head _))) (by decide) rfl rfl) rfl .nil)) op_isInst) soundSs_dead (soundSs_cons (soundS_assign v_splitroot_sep (nfree k_splitroot_sep) (sound_const rfl) (fun _ _ _ => rfl))
  (soundSs_cons (soundS_assign v_splitroot_empty (nfree k_splitroot_empty) (sound_const rfl) (fun _ _ _ => rfl))
  soundSs_nil)))
  (soundSs_cons (soundS_if (sound_cmp (sound_slice (sound_var v_splitroot_p nn_p.1 nn_p.2) .no (.yes (sound_const rfl))) (sound_var v_splitroot_sep nn_sep.1 nn_sep.2) op_ne rfl) (soundSs_cons (soundS_ret (sound_tup (.cons (sound_var v_splitroot_empty nn_empty.1 nn_empty.2) rfl (.cons (sound_var v_splitroot_empty nn_empty.1 nn_empty.2) rfl (.cons (sound_var v_splitroot_p nn_p.1 nn_p.2) rfl .nil)))))
  soundSs_nil) (soundSs_cons (soundS_if (sound_bool (.or (sound_cmp (sound_slice (sound_var v_splitroot_p nn_p.1 nn_p.2) (.yes (sound_const rfl)) (.yes (sound_const rfl))) (sound_var v_splitroot_sep nn_sep.1 nn_sep.2) op_ne rfl) (.one (sound_cmp (sound_slice (sound_var v_splitroot_p nn_p.1 nn_p.2) (.yes (sound_const rfl)) (.yes (sound_const rfl))) (sound_var v_splitroot_sep nn_sep.1 nn_sep.2) op_eq rfl)))) (soundSs_cons (soundS_ret (sound_tup (.cons (sound_var v_splitroot_empty nn_empty.1 nn_empty.2) rfl (.cons (sound_var v_splitroot_sep nn_sep.1 nn_sep.2) rfl (.cons (sound_slice (sound_var v_splitroot_p nn_p.1 nn_p.2) (.yes (sound_const rfl)) .no) rfl .nil)))))
  soundSs_nil) (soundSs_cons (soundS_ret (sound_tup (.cons (sound_var v_splitroot_empty nn_empty.1 nn_empty.2) rfl (.cons (sound_slice (sound_var v_splitroot_p nn_p.1 nn_p.2) .no (.yes (sound_const rfl))) rfl (.cons (sound_slice (sound_var v_splitroot_p nn_p.1 nn_p.2) (.yes (sound_const rfl)) .no) rfl .nil)))))
  soundSs_nil))
  soundSs_nil))
  soundSs_nil)))
noncomputable def sc_basename : Sc := { kinds := [(PySem.Str.ofString "p", .local), (PySem.Str.ofString "sep", .local), (PySem.Str.ofString "i", .local), (PySem.Str.ofString "fspath", .globalImplicit), (PySem.Str.ofString "_get_sep", .globalImplicit)], vars := [(PySem.Str.ofString "p", 0), (PySem.Str.ofString "sep", 1), (PySem.Str.ofString "i", 2)] }
theorem v_basename_p  : sc_basename.vars.lookup (PySem.Str.ofString "p") = some 0 := rfl
theorem k_basename_fspath  : sc_basename.kinds.lookup (PySem.Str.ofString "fspath") = some .globalImplicit := rfl
theorem k_basename_p  : sc_basename.kinds.lookup (PySem.Str.ofString "p") = some .local := rfl
theorem k_basename_get_sep  : sc_basename.kinds.lookup (PySem.Str.ofString "_get_sep") = some .globalImplicit := rfl
theorem v_basename_sep  : sc_basename.vars.lookup (PySem.Str.ofString "sep") = some 1 := rfl
theorem k_basename_sep  : sc_basename.kinds.lookup (PySem.Str.ofString "sep") = some .local := rfl
theorem v_basename_i  : sc_basename.vars.lookup (PySem.Str.ofString "i") = some 2 := rfl
theorem k_basename_i  : sc_basename.kinds.lookup (PySem.Str.ofString "i") = some .local := rfl
theorem snd_basename {cx : XCx} (N : GN cx fs07 bs07) : SoundSs cx sc_basename (nthBody PySem.Challenge.pw_dn0069_07 24) s_basename := by
  unfold s_basename
  exact (soundSs_cons (soundS_assign v_basename_p (nfree k_basename_p) (sound_call k_basename_fspath (N.f _ 2 (.tail _ (.tail _ (.head _)))) rfl (.cons (sound_var v_basename_p nn_p.1 nn_p.2) rfl .nil)) (fun _ _ _ => rfl))
  (soundSs_cons (soundS_assign v_basename_sep (nfree k_basename_sep) (sound_call k_basename_get_sep (N.f _ 3 (.tail _ (.tail _ (.tail _ (.head _))))) rfl (.cons (sound_var v_basename_p nn_p.1 nn_p.2) rfl .nil)) (fun _ _ _ => rfl))
  (soundSs_cons (soundS_assign v_basename_i (nfree k_basename_i) (sound_bin (m_rfind rfl rfl (by decide) (sound_var v_basename_p nn_p.1 nn_p.2) (.cons (sound_var v_basename_sep nn_sep.1 nn_sep.2) rfl .nil)) (sound_const rfl) op_add) (fun _ _ _ => rfl))
  (soundSs_cons (soundS_ret (sound_slice (sound_var v_basename_p nn_p.1 nn_p.2) (.yes (sound_var v_basename_i nn_i.1 nn_i.2)) .no))
  soundSs_nil))))
noncomputable def sc_normpath : Sc := { kinds := [(PySem.Str.ofString "path", .local), (PySem.Str.ofString "sep", .local), (PySem.Str.ofString "dot", .local), (PySem.Str.ofString "dotdot", .local), (PySem.Str.ofString "_", .local), (PySem.Str.ofString "initial_slashes", .local), (PySem.Str.ofString "comps", .local), (PySem.Str.ofString "new_comps", .local), (PySem.Str.ofString "comp", .local), (PySem.Str.ofString "fspath", .globalImplicit), (PySem.Str.ofString "isinstance", .globalImplicit), (PySem.Str.ofString "bytes", .globalImplicit), (PySem.Str.ofString "splitroot", .globalImplicit)], vars := [(PySem.Str.ofString "path", 0), (PySem.Str.ofString "sep", 1), (PySem.Str.ofString "dot", 2), (PySem.Str.ofString "dotdot", 3), (PySem.Str.ofString "_", 4), (PySem.Str.ofString "initial_slashes", 5), (PySem.Str.ofString "comps", 6), (PySem.Str.ofString "new_comps", 7), (PySem.Str.ofString "comp", 8)] }
theorem v_normpath_path  : sc_normpath.vars.lookup (PySem.Str.ofString "path") = some 0 := rfl
theorem k_normpath_fspath  : sc_normpath.kinds.lookup (PySem.Str.ofString "fspath") = some .globalImplicit := rfl
theorem k_normpath_path  : sc_normpath.kinds.lookup (PySem.Str.ofString "path") = some .local := rfl
theorem k_normpath_bytes  : sc_normpath.kinds.lookup (PySem.Str.ofString "bytes") = some .globalImplicit := rfl
theorem k_normpath_isinstance  : sc_normpath.kinds.lookup (PySem.Str.ofString "isinstance") = some .globalImplicit := rfl
theorem v_normpath_sep  : sc_normpath.vars.lookup (PySem.Str.ofString "sep") = some 1 := rfl
theorem k_normpath_sep  : sc_normpath.kinds.lookup (PySem.Str.ofString "sep") = some .local := rfl
theorem v_normpath_dot  : sc_normpath.vars.lookup (PySem.Str.ofString "dot") = some 2 := rfl
theorem k_normpath_dot  : sc_normpath.kinds.lookup (PySem.Str.ofString "dot") = some .local := rfl
theorem v_normpath_dotdot  : sc_normpath.vars.lookup (PySem.Str.ofString "dotdot") = some 3 := rfl
theorem k_normpath_dotdot  : sc_normpath.kinds.lookup (PySem.Str.ofString "dotdot") = some .local := rfl
theorem k_normpath_splitroot  : sc_normpath.kinds.lookup (PySem.Str.ofString "splitroot") = some .globalImplicit := rfl
theorem v_normpath_  : sc_normpath.vars.lookup (PySem.Str.ofString "_") = some 4 := rfl
theorem v_normpath_initial_slashes  : sc_normpath.vars.lookup (PySem.Str.ofString "initial_slashes") = some 5 := rfl
theorem k_normpath_  : sc_normpath.kinds.lookup (PySem.Str.ofString "_") = some .local := rfl
theorem k_normpath_initial_slashes  : sc_normpath.kinds.lookup (PySem.Str.ofString "initial_slashes") = some .local := rfl
theorem v_normpath_comps  : sc_normpath.vars.lookup (PySem.Str.ofString "comps") = some 6 := rfl
theorem k_normpath_comps  : sc_normpath.kinds.lookup (PySem.Str.ofString "comps") = some .local := rfl
theorem v_normpath_new_comps  : sc_normpath.vars.lookup (PySem.Str.ofString "new_comps") = some 7 := rfl
theorem k_normpath_new_comps  : sc_normpath.kinds.lookup (PySem.Str.ofString "new_comps") = some .local := rfl
theorem v_normpath_comp  : sc_normpath.vars.lookup (PySem.Str.ofString "comp") = some 8 := rfl
theorem k_normpath_comp  : sc_normpath.kinds.lookup (PySem.Str.ofString "comp") = some .local := rfl
theorem snd_normpath {cx : XCx} (N : GN cx fs07 bs07) : SoundSs cx sc_normpath (nthBody PySem.Challenge.pw_dn0069_07 26) s_normpath := by
  unfold s_normpath
  exact (soundSs_cons (soundS_assign v_normpath_path (nfree k_normpath_path) (sound_call k_normpath_fspath (N.f _ 2 (.tail _ (.tail _ (.head _)))) rfl (.cons (sound_var v_normpath_path nn_path.1 nn_path.2) rfl .nil)) (fun _ _ _ => rfl))
  (soundSs_cons (soundS_if (sound_callB k_normpath_isinstance (N.b _ (.tail _ (.tail _ (.tail _ (.tail _ (.tail _ (.tail _ (.tail _ (.head _))))))))) (by decide) rfl (.builtin _) rfl (.cons (sound_var v_normpath_path nn_path.1 nn_path.2) rfl (.cons (sound_tyname k_normpath_bytes (N.b _ (.tail _ (.head _))) (by decide) rfl rfl) rfl .nil)) op_isInst) soundSs_dead (soundSs_cons (soundS_assign v_normpath_sep (nfree k_normpath_sep) (sound_const rfl) (fun _ _ _ => rfl))
  (soundSs_cons (soundS_assign v_normpath_dot (nfree k_normpath_dot) (sound_const rfl) (fun _ _ _ => rfl))
  (soundSs_cons (soundS_assign v_normpath_dotdot (nfree k_normpath_dotdot) (sound_const rfl) (fun _ _ _ => rfl))
  soundSs_nil))))
  (soundSs_cons (soundS_if (sound_not (sound_var v_normpath_path nn_path.1 nn_path.2)) (soundSs_cons (soundS_ret (sound_var v_normpath_dot nn_dot.1 nn_dot.2))
  soundSs_nil) soundSs_nil)
  (soundSs_cons (soundS_assign3 v_normpath_ v_normpath_initial_slashes v_normpath_path (nfree k_normpath_) (nfree k_normpath_initial_slashes) (nfree k_normpath_path) (sound_call k_normpath_splitroot (N.f _ 7 (.tail _ (.tail _ (.tail _ (.tail _ (.tail _ (.tail _ (.head _)))))))) rfl (.cons (sound_var v_normpath_path nn_path.1 nn_path.2) rfl .nil)) (fun _ => rfl) (fun _ => rfl))
  (soundSs_cons (soundS_assign v_normpath_comps (nfree k_normpath_comps) (m_split rfl rfl (by decide) (sound_var v_normpath_path nn_path.1 nn_path.2) (.cons (sound_var v_normpath_sep nn_sep.1 nn_sep.2) rfl .nil)) (fun _ _ _ => rfl))
  (soundSs_cons (soundS_assignO v_normpath_new_comps (nfree k_normpath_new_comps) (sound_list .nil) (fun _ _ _ => rfl))
  (soundSs_cons (soundS_for v_normpath_comp (nfree k_normpath_comp) (soundI_seq (sound_var v_normpath_comps nn_comps.1 nn_comps.2)) (soundSs_cons (soundS_if (sound_bool (.or (sound_not (sound_var v_normpath_comp nn_comp.1 nn_comp.2)) (.one (sound_cmp (sound_var v_normpath_comp nn_comp.1 nn_comp.2) (sound_var v_normpath_dot nn_dot.1 nn_dot.2) op_eq rfl)))) (soundSs_cons soundS_continue
  soundSs_nil) soundSs_nil)
  (soundSs_cons (soundS_if (sound_bool (.or (sound_cmp (sound_var v_normpath_comp nn_comp.1 nn_comp.2) (sound_var v_normpath_dotdot nn_dotdot.1 nn_dotdot.2) op_ne rfl) (.or (sound_bool (.and (sound_not (sound_var v_normpath_initial_slashes nn_initial_slashes.1 nn_initial_slashes.2)) (.one (sound_not (sound_var v_normpath_new_comps nn_new_comps.1 nn_new_comps.2))))) (.one (sound_bool (.and (sound_var v_normpath_new_comps nn_new_comps.1 nn_new_comps.2) (.one (sound_cmp (sound_index (sound_var v_normpath_new_comps nn_new_comps.1 nn_new_comps.2) (sound_un (sound_const rfl) op_neg (fun h => nomatch h))) (sound_var v_normpath_dotdot nn_dotdot.1 nn_dotdot.2) op_eq rfl)))))))) (soundSs_cons (soundS_append v_normpath_new_comps nn_new_comps.1 nn_new_comps.2 rfl (sound_var v_normpath_comp nn_comp.1 nn_comp.2) rfl)
  soundSs_nil) (soundSs_cons (soundS_if (sound_var v_normpath_new_comps nn_new_comps.1 nn_new_comps.2) (soundSs_cons (soundS_pop v_normpath_new_comps nn_new_comps.1 nn_new_comps.2 rfl)
  soundSs_nil) soundSs_nil)
  soundSs_nil))
  soundSs_nil)) (fun _ _ => rfl))
  (soundSs_cons (soundS_fz ⟨_, v_normpath_new_comps⟩ (soundS_assign v_normpath_comps (nfree k_normpath_comps) (sound_var v_normpath_new_comps nn_new_comps.1 nn_new_comps.2) (fun _ _ _ => rfl)))
  (soundSs_cons (soundS_assign v_normpath_path (nfree k_normpath_path) (sound_bin (sound_var v_normpath_initial_slashes nn_initial_slashes.1 nn_initial_slashes.2) (m_join rfl rfl (by decide) (sound_var v_normpath_sep nn_sep.1 nn_sep.2) (.cons (sound_var v_normpath_comps nn_comps.1 nn_comps.2) rfl .nil)) op_add) (fun _ _ _ => rfl))
  (soundSs_cons (soundS_ret (sound_bool (.or (sound_var v_normpath_path nn_path.1 nn_path.2) (.one (sound_var v_normpath_dot nn_dot.1 nn_dot.2)))))
  soundSs_nil))))))))))
noncomputable def sc_abspath : Sc := { kinds := [(PySem.Str.ofString "path", .local), (PySem.Str.ofString "fspath", .globalImplicit), (PySem.Str.ofString "isinstance", .globalImplicit), (PySem.Str.ofString "bytes", .globalImplicit), (PySem.Str.ofString "join", .globalImplicit), (PySem.Str.ofString "_wall", .globalImplicit), (PySem.Str.ofString "normpath", .globalImplicit)], vars := [(PySem.Str.ofString "path", 0)] }
theorem v_abspath_path  : sc_abspath.vars.lookup (PySem.Str.ofString "path") = some 0 := rfl
theorem k_abspath_fspath  : sc_abspath.kinds.lookup (PySem.Str.ofString "fspath") = some .globalImplicit := rfl
theorem k_abspath_path  : sc_abspath.kinds.lookup (PySem.Str.ofString "path") = some .local := rfl
theorem k_abspath_bytes  : sc_abspath.kinds.lookup (PySem.Str.ofString "bytes") = some .globalImplicit := rfl
theorem k_abspath_isinstance  : sc_abspath.kinds.lookup (PySem.Str.ofString "isinstance") = some .globalImplicit := rfl
theorem k_abspath_normpath  : sc_abspath.kinds.lookup (PySem.Str.ofString "normpath") = some .globalImplicit := rfl
theorem snd_abspath {cx : XCx} (N : GN cx fs07 bs07) : SoundSs cx sc_abspath (nthBody PySem.Challenge.pw_dn0069_07 27) s_abspath := by
  unfold s_abspath
  exact (soundSs_cons (soundS_assign v_abspath_path (nfree k_abspath_path) (sound_call k_abspath_fspath (N.f _ 2 (.tail _ (.tail _ (.head _)))) rfl (.cons (sound_var v_abspath_path nn_path.1 nn_path.2) rfl .nil)) (fun _ _ _ => rfl))
  (soundSs_cons (soundS_if (sound_callB k_abspath_isinstance (N.b _ (.tail _ (.tail _ (.tail _ (.tail _ (.tail _ (.tail _ (.tail _ (.head _))))))))) (by decide) rfl (.builtin _) rfl (.cons (sound_var v_abspath_path nn_path.1 nn_path.2) rfl (.cons (sound_tyname k_abspath_bytes (N.b _ (.tail _ (.head _))) (by decide) rfl rfl) rfl .nil)) op_isInst) soundSs_dead (soundSs_cons (soundS_if (sound_not (m_startswith rfl rfl (by decide) (sound_var v_abspath_path nn_path.1 nn_path.2) (.cons (sound_const rfl) rfl .nil))) soundSs_dead soundSs_nil)
  soundSs_nil))
  (soundSs_cons (soundS_ret (sound_call k_abspath_normpath (N.f _ 9 (.tail _ (.tail _ (.tail _ (.tail _ (.tail _ (.tail _ (.tail _ (.tail _ (.head _)))))))))) rfl (.cons (sound_var v_abspath_path nn_path.1 nn_path.2) rfl .nil)))
  soundSs_nil)))
noncomputable def sc_relpath : Sc := { kinds := [(PySem.Str.ofString "path", .local), (PySem.Str.ofString "start", .local), (PySem.Str.ofString "curdir", .local), (PySem.Str.ofString "sep", .local), (PySem.Str.ofString "pardir", .local), (PySem.Str.ofString "start_tail", .local), (PySem.Str.ofString "path_tail", .local), (PySem.Str.ofString "start_list", .local), (PySem.Str.ofString "path_list", .local), (PySem.Str.ofString "i", .local), (PySem.Str.ofString "rel_list", .local), (PySem.Str.ofString "fspath", .globalImplicit), (PySem.Str.ofString "ValueError", .globalImplicit), (PySem.Str.ofString "isinstance", .globalImplicit), (PySem.Str.ofString "bytes", .globalImplicit), (PySem.Str.ofString "abspath", .globalImplicit), (PySem.Str.ofString "len", .globalImplicit), (PySem.Str.ofString "commonprefix", .globalImplicit), (PySem.Str.ofString "TypeError", .globalImplicit), (PySem.Str.ofString "AttributeError", .globalImplicit), (PySem.Str.ofString "BytesWarning", .globalImplicit), (PySem.Str.ofString "DeprecationWarning", .globalImplicit), (PySem.Str.ofString "_check_arg_types", .globalImplicit)], vars := [(PySem.Str.ofString "path", 0), (PySem.Str.ofString "start", 1), (PySem.Str.ofString "curdir", 2), (PySem.Str.ofString "sep", 3), (PySem.Str.ofString "pardir", 4), (PySem.Str.ofString "start_tail", 5), (PySem.Str.ofString "path_tail", 6), (PySem.Str.ofString "start_list", 7), (PySem.Str.ofString "path_list", 8), (PySem.Str.ofString "i", 9), (PySem.Str.ofString "rel_list", 10)] }
theorem v_relpath_path  : sc_relpath.vars.lookup (PySem.Str.ofString "path") = some 0 := rfl
theorem k_relpath_fspath  : sc_relpath.kinds.lookup (PySem.Str.ofString "fspath") = some .globalImplicit := rfl
theorem k_relpath_path  : sc_relpath.kinds.lookup (PySem.Str.ofString "path") = some .local := rfl
theorem k_relpath_bytes  : sc_relpath.kinds.lookup (PySem.Str.ofString "bytes") = some .globalImplicit := rfl
theorem k_relpath_isinstance  : sc_relpath.kinds.lookup (PySem.Str.ofString "isinstance") = some .globalImplicit := rfl
theorem v_relpath_curdir  : sc_relpath.vars.lookup (PySem.Str.ofString "curdir") = some 2 := rfl
theorem k_relpath_curdir  : sc_relpath.kinds.lookup (PySem.Str.ofString "curdir") = some .local := rfl
theorem v_relpath_sep  : sc_relpath.vars.lookup (PySem.Str.ofString "sep") = some 3 := rfl
theorem k_relpath_sep  : sc_relpath.kinds.lookup (PySem.Str.ofString "sep") = some .local := rfl
theorem v_relpath_pardir  : sc_relpath.vars.lookup (PySem.Str.ofString "pardir") = some 4 := rfl
theorem k_relpath_pardir  : sc_relpath.kinds.lookup (PySem.Str.ofString "pardir") = some .local := rfl
theorem v_relpath_start  : sc_relpath.vars.lookup (PySem.Str.ofString "start") = some 1 := rfl
theorem k_relpath_start  : sc_relpath.kinds.lookup (PySem.Str.ofString "start") = some .local := rfl
theorem k_relpath_abspath  : sc_relpath.kinds.lookup (PySem.Str.ofString "abspath") = some .globalImplicit := rfl
theorem v_relpath_start_tail  : sc_relpath.vars.lookup (PySem.Str.ofString "start_tail") = some 5 := rfl
theorem k_relpath_start_tail  : sc_relpath.kinds.lookup (PySem.Str.ofString "start_tail") = some .local := rfl
theorem v_relpath_path_tail  : sc_relpath.vars.lookup (PySem.Str.ofString "path_tail") = some 6 := rfl
theorem k_relpath_path_tail  : sc_relpath.kinds.lookup (PySem.Str.ofString "path_tail") = some .local := rfl
theorem v_relpath_start_list  : sc_relpath.vars.lookup (PySem.Str.ofString "start_list") = some 7 := rfl
theorem k_relpath_start_list  : sc_relpath.kinds.lookup (PySem.Str.ofString "start_list") = some .local := rfl
theorem v_relpath_path_list  : sc_relpath.vars.lookup (PySem.Str.ofString "path_list") = some 8 := rfl
theorem k_relpath_path_list  : sc_relpath.kinds.lookup (PySem.Str.ofString "path_list") = some .local := rfl
theorem k_relpath_commonprefix  : sc_relpath.kinds.lookup (PySem.Str.ofString "commonprefix") = some .globalImplicit := rfl
theorem k_relpath_len  : sc_relpath.kinds.lookup (PySem.Str.ofString "len") = some .globalImplicit := rfl
theorem v_relpath_i  : sc_relpath.vars.lookup (PySem.Str.ofString "i") = some 9 := rfl
theorem k_relpath_i  : sc_relpath.kinds.lookup (PySem.Str.ofString "i") = some .local := rfl
theorem v_relpath_rel_list  : sc_relpath.vars.lookup (PySem.Str.ofString "rel_list") = some 10 := rfl
theorem k_relpath_rel_list  : sc_relpath.kinds.lookup (PySem.Str.ofString "rel_list") = some .local := rfl
theorem snd_relpath {cx : XCx} (N : GN cx fs07 bs07) : SoundSs cx sc_relpath (nthBody PySem.Challenge.pw_dn0069_07 28) s_relpath := by
  unfold s_relpath
  exact (soundSs_cons (soundS_assign v_relpath_path (nfree k_relpath_path) (sound_call k_relpath_fspath (N.f _ 2 (.tail _ (.tail _ (.head _)))) rfl (.cons (sound_var v_relpath_path nn_path.1 nn_path.2) rfl .nil)) (fun _ _ _ => rfl))
  (soundSs_cons (soundS_if (sound_not (sound_var v_relpath_path nn_path.1 nn_path.2)) soundSs_dead soundSs_nil)
  (soundSs_cons (soundS_if (sound_callB k_relpath_isinstance (N.b _ (.tail _ (.tail _ (.tail _ (.tail _ (.tail _ (.tail _ (.tail _ (.head _))))))))) (by decide) rfl (.builtin _) rfl (.cons (sound_var v_relpath_path nn_path.1 nn_path.2) rfl (.cons (sound_tyname k_relpath_bytes (N.b _ (.tail _ (.head _))) (by decide) rfl rfl) rfl .nil)) op_isInst) soundSs_dead (soundSs_cons (soundS_assign v_relpath_curdir (nfree k_relpath_curdir) (sound_const rfl) (fun _ _ _ => rfl))
  (soundSs_cons (soundS_assign v_relpath_sep (nfree k_relpath_sep) (sound_const rfl) (fun _ _ _ => rfl))
  (soundSs_cons (soundS_assign v_relpath_pardir (nfree k_relpath_pardir) (sound_const rfl) (fun _ _ _ => rfl))
  soundSs_nil))))
  (soundSs_cons (soundS_if (sound_cmp (sound_var v_relpath_start nn_start.1 nn_start.2) (sound_const rfl) op_is rfl) (soundSs_cons (soundS_assign v_relpath_start (nfree k_relpath_start) (sound_var v_relpath_curdir nn_curdir.1 nn_curdir.2) (fun _ _ _ => rfl))
  soundSs_nil) (soundSs_cons (soundS_assign v_relpath_start (nfree k_relpath_start) (sound_call k_relpath_fspath (N.f _ 2 (.tail _ (.tail _ (.head _)))) rfl (.cons (sound_var v_relpath_start nn_start.1 nn_start.2) rfl .nil)) (fun _ _ _ => rfl))
  soundSs_nil))
  (soundSs_cons (soundS_try (soundSs_cons (soundS_assign v_relpath_start_tail (nfree k_relpath_start_tail) (m_lstrip rfl rfl (by decide) (sound_call k_relpath_abspath (N.f _ 10 (.tail _ (.tail _ (.tail _ (.tail _ (.tail _ (.tail _ (.tail _ (.tail _ (.tail _ (.head _))))))))))) rfl (.cons (sound_var v_relpath_start nn_start.1 nn_start.2) rfl .nil)) (.cons (sound_var v_relpath_sep nn_sep.1 nn_sep.2) rfl .nil)) (fun _ _ _ => rfl))
  (soundSs_cons (soundS_assign v_relpath_path_tail (nfree k_relpath_path_tail) (m_lstrip rfl rfl (by decide) (sound_call k_relpath_abspath (N.f _ 10 (.tail _ (.tail _ (.tail _ (.tail _ (.tail _ (.tail _ (.tail _ (.tail _ (.tail _ (.head _))))))))))) rfl (.cons (sound_var v_relpath_path nn_path.1 nn_path.2) rfl .nil)) (.cons (sound_var v_relpath_sep nn_sep.1 nn_sep.2) rfl .nil)) (fun _ _ _ => rfl))
  (soundSs_cons (soundS_assign v_relpath_start_list (nfree k_relpath_start_list) (sound_ite (sound_var v_relpath_start_tail nn_start_tail.1 nn_start_tail.2) (m_split rfl rfl (by decide) (sound_var v_relpath_start_tail nn_start_tail.1 nn_start_tail.2) (.cons (sound_var v_relpath_sep nn_sep.1 nn_sep.2) rfl .nil)) (sound_list .nil)) (fun _ _ _ => rfl))
  (soundSs_cons (soundS_assign v_relpath_path_list (nfree k_relpath_path_list) (sound_ite (sound_var v_relpath_path_tail nn_path_tail.1 nn_path_tail.2) (m_split rfl rfl (by decide) (sound_var v_relpath_path_tail nn_path_tail.1 nn_path_tail.2) (.cons (sound_var v_relpath_sep nn_sep.1 nn_sep.2) rfl .nil)) (sound_list .nil)) (fun _ _ _ => rfl))
  (soundSs_cons (soundS_assign v_relpath_i (nfree k_relpath_i) (sound_callB k_relpath_len (N.b _ (.tail _ (.tail _ (.tail _ (.tail _ (.head _)))))) (by decide) rfl (.builtin _) rfl (.cons (sound_call k_relpath_commonprefix (N.f _ 12 (.tail _ (.tail _ (.tail _ (.tail _ (.tail _ (.tail _ (.tail _ (.tail _ (.tail _ (.tail _ (.tail _ (.head _))))))))))))) rfl (.cons (sound_list (.cons (sound_var v_relpath_start_list nn_start_list.1 nn_start_list.2) rfl (.cons (sound_var v_relpath_path_list nn_path_list.1 nn_path_list.2) rfl .nil))) rfl .nil)) rfl .nil) op_len) (fun _ _ _ => rfl))
  (soundSs_cons (soundS_assign v_relpath_rel_list (nfree k_relpath_rel_list) (sound_bin (sound_bin (sound_list (.cons (sound_var v_relpath_pardir nn_pardir.1 nn_pardir.2) rfl .nil)) (sound_bin (sound_callB k_relpath_len (N.b _ (.tail _ (.tail _ (.tail _ (.tail _ (.head _)))))) (by decide) rfl (.builtin _) rfl (.cons (sound_var v_relpath_start_list nn_start_list.1 nn_start_list.2) rfl .nil) op_len) (sound_var v_relpath_i nn_i.1 nn_i.2) op_sub) op_mul) (sound_slice (sound_var v_relpath_path_list nn_path_list.1 nn_path_list.2) (.yes (sound_var v_relpath_i nn_i.1 nn_i.2)) .no) op_add) (fun _ _ _ => rfl))
  (soundSs_cons (soundS_if (sound_not (sound_var v_relpath_rel_list nn_rel_list.1 nn_rel_list.2)) (soundSs_cons (soundS_ret (sound_var v_relpath_curdir nn_curdir.1 nn_curdir.2))
  soundSs_nil) soundSs_nil)
  (soundSs_cons (soundS_ret (m_join rfl rfl (by decide) (sound_var v_relpath_sep nn_sep.1 nn_sep.2) (.cons (sound_var v_relpath_rel_list nn_rel_list.1 nn_rel_list.2) rfl .nil)))
  soundSs_nil)))))))))
  soundSs_nil)))))
noncomputable def sc_commonprefix : Sc := { kinds := [(PySem.Str.ofString "m", .local), (PySem.Str.ofString "s1", .local), (PySem.Str.ofString "s2", .local), (PySem.Str.ofString "i", .local), (PySem.Str.ofString "c", .local), (PySem.Str.ofString "isinstance", .globalImplicit), (PySem.Str.ofString "list", .globalImplicit), (PySem.Str.ofString "tuple", .globalImplicit), (PySem.Str.ofString "map", .globalImplicit), (PySem.Str.ofString "fspath", .globalImplicit), (PySem.Str.ofString "min", .globalImplicit), (PySem.Str.ofString "max", .globalImplicit), (PySem.Str.ofString "enumerate", .globalImplicit)], vars := [(PySem.Str.ofString "m", 0), (PySem.Str.ofString "s1", 1), (PySem.Str.ofString "s2", 2), (PySem.Str.ofString "i", 3), (PySem.Str.ofString "c", 4)] }
theorem v_commonprefix_m  : sc_commonprefix.vars.lookup (PySem.Str.ofString "m") = some 0 := rfl
theorem k_commonprefix_tuple  : sc_commonprefix.kinds.lookup (PySem.Str.ofString "tuple") = some .globalImplicit := rfl
theorem k_commonprefix_list  : sc_commonprefix.kinds.lookup (PySem.Str.ofString "list") = some .globalImplicit := rfl
theorem k_commonprefix_isinstance  : sc_commonprefix.kinds.lookup (PySem.Str.ofString "isinstance") = some .globalImplicit := rfl
theorem k_commonprefix_min  : sc_commonprefix.kinds.lookup (PySem.Str.ofString "min") = some .globalImplicit := rfl
theorem v_commonprefix_s1  : sc_commonprefix.vars.lookup (PySem.Str.ofString "s1") = some 1 := rfl
theorem k_commonprefix_s1  : sc_commonprefix.kinds.lookup (PySem.Str.ofString "s1") = some .local := rfl
theorem k_commonprefix_max  : sc_commonprefix.kinds.lookup (PySem.Str.ofString "max") = some .globalImplicit := rfl
theorem v_commonprefix_s2  : sc_commonprefix.vars.lookup (PySem.Str.ofString "s2") = some 2 := rfl
theorem k_commonprefix_s2  : sc_commonprefix.kinds.lookup (PySem.Str.ofString "s2") = some .local := rfl
theorem v_commonprefix_c  : sc_commonprefix.vars.lookup (PySem.Str.ofString "c") = some 4 := rfl
theorem v_commonprefix_i  : sc_commonprefix.vars.lookup (PySem.Str.ofString "i") = some 3 := rfl
theorem k_commonprefix_enumerate  : sc_commonprefix.kinds.lookup (PySem.Str.ofString "enumerate") = some .globalImplicit := rfl
theorem k_commonprefix_i  : sc_commonprefix.kinds.lookup (PySem.Str.ofString "i") = some .local := rfl
theorem k_commonprefix_c  : sc_commonprefix.kinds.lookup (PySem.Str.ofString "c") = some .local := rfl
theorem snd_commonprefix {cx : XCx} (N : GN cx fs07 bs07) : SoundSs cx sc_commonprefix (nthBody PySem.Challenge.pw_dn0069_07 18) s_commonprefix := by
  unfold s_commonprefix
  exact (soundSs_cons (soundS_if (sound_not (sound_var v_commonprefix_m nn_m.1 nn_m.2)) (soundSs_cons (soundS_ret (sound_const rfl))
  soundSs_nil) soundSs_nil)
  (soundSs_cons (soundS_if (sound_not (sound_callB k_commonprefix_isinstance (N.b _ (.tail _ (.tail _ (.tail _ (.tail _ (.tail _ (.tail _ (.tail _ (.head _))))))))) (by decide) rfl (.builtin _) rfl (.cons (sound_index (sound_var v_commonprefix_m nn_m.1 nn_m.2) (sound_const rfl)) rfl (.cons (sound_tup (.cons (sound_tyname k_commonprefix_list (N.b _ (.tail _ (.tail _ (.head _)))) (by decide) rfl rfl) rfl (.cons (sound_tyname k_commonprefix_tuple (N.b _ (.tail _ (.tail _ (.tail _ (.head _))))) (by decide) rfl rfl) rfl .nil))) rfl .nil)) op_isInst)) soundSs_dead soundSs_nil)
  (soundSs_cons (soundS_assign v_commonprefix_s1 (nfree k_commonprefix_s1) (sound_callB k_commonprefix_min (N.b _ (.tail _ (.tail _ (.tail _ (.tail _ (.tail _ (.tail _ (.tail _ (.tail _ (.tail _ (.tail _ (.tail _ (.head _))))))))))))) (by decide) rfl (.builtin _) rfl (.cons (sound_var v_commonprefix_m nn_m.1 nn_m.2) rfl .nil) op_min) (fun _ _ _ => rfl))
  (soundSs_cons (soundS_assign v_commonprefix_s2 (nfree k_commonprefix_s2) (sound_callB k_commonprefix_max (N.b _ (.tail _ (.tail _ (.tail _ (.tail _ (.tail _ (.tail _ (.tail _ (.tail _ (.tail _ (.tail _ (.tail _ (.tail _ (.head _)))))))))))))) (by decide) rfl (.builtin _) rfl (.cons (sound_var v_commonprefix_m nn_m.1 nn_m.2) rfl .nil) op_max) (fun _ _ _ => rfl))
  (soundSs_cons (soundS_forEnum k_commonprefix_enumerate (N.b _ (.tail _ (.tail _ (.tail _ (.tail _ (.tail _ (.tail _ (.tail _ (.tail _ (.tail _ (.tail _ (.tail _ (.tail _ (.tail _ (.tail _ (.tail _ (.head _))))))))))))))))) v_commonprefix_i v_commonprefix_c (nfree k_commonprefix_i) (nfree k_commonprefix_c) (sound_var v_commonprefix_s1 nn_s1.1 nn_s1.2) rfl (soundSs_cons (soundS_if (sound_cmp (sound_var v_commonprefix_c nn_c.1 nn_c.2) (sound_index (sound_var v_commonprefix_s2 nn_s2.1 nn_s2.2) (sound_var v_commonprefix_i nn_i.1 nn_i.2)) op_ne rfl) (soundSs_cons (soundS_ret (sound_slice (sound_var v_commonprefix_s1 nn_s1.1 nn_s1.2) .no (.yes (sound_var v_commonprefix_i nn_i.1 nn_i.2))))
  soundSs_nil) soundSs_nil)
  soundSs_nil) (fun _ _ => rfl))
  (soundSs_cons (soundS_ret (sound_var v_commonprefix_s1 nn_s1.1 nn_s1.2))
  soundSs_nil))))))
noncomputable def sc_law_runs : Sc := { kinds := [(PySem.Str.ofString "parts", .local), (PySem.Str.ofString "star", .local), (PySem.Str.ofString "name", .local), (PySem.Str.ofString "runs", .local), (PySem.Str.ofString "at", .local), (PySem.Str.ofString "k", .local), (PySem.Str.ofString "start", .local), (PySem.Str.ofString "len", .globalImplicit)], vars := [(PySem.Str.ofString "parts", 0), (PySem.Str.ofString "star", 1), (PySem.Str.ofString "name", 2), (PySem.Str.ofString "runs", 3), (PySem.Str.ofString "at", 4), (PySem.Str.ofString "k", 5), (PySem.Str.ofString "start", 6)] }
theorem v_law_runs_runs  : sc_law_runs.vars.lookup (PySem.Str.ofString "runs") = some 3 := rfl
theorem k_law_runs_runs  : sc_law_runs.kinds.lookup (PySem.Str.ofString "runs") = some .local := rfl
theorem v_law_runs_at  : sc_law_runs.vars.lookup (PySem.Str.ofString "at") = some 4 := rfl
theorem k_law_runs_at  : sc_law_runs.kinds.lookup (PySem.Str.ofString "at") = some .local := rfl
theorem v_law_runs_k  : sc_law_runs.vars.lookup (PySem.Str.ofString "k") = some 5 := rfl
theorem k_law_runs_k  : sc_law_runs.kinds.lookup (PySem.Str.ofString "k") = some .local := rfl
theorem v_law_runs_parts  : sc_law_runs.vars.lookup (PySem.Str.ofString "parts") = some 0 := rfl
theorem k_law_runs_len  : sc_law_runs.kinds.lookup (PySem.Str.ofString "len") = some .globalImplicit := rfl
theorem v_law_runs_start  : sc_law_runs.vars.lookup (PySem.Str.ofString "start") = some 6 := rfl
theorem k_law_runs_start  : sc_law_runs.kinds.lookup (PySem.Str.ofString "start") = some .local := rfl
theorem v_law_runs_star  : sc_law_runs.vars.lookup (PySem.Str.ofString "star") = some 1 := rfl
theorem v_law_runs_name  : sc_law_runs.vars.lookup (PySem.Str.ofString "name") = some 2 := rfl
theorem snd_law_runs {cx : XCx} (N : GN cx fs07 bs07) : SoundSs cx sc_law_runs (nthBody PySem.Challenge.pw_dn0069_07 30) s_law_runs := by
  unfold s_law_runs
  exact (soundSs_cons (soundS_assignO v_law_runs_runs (nfree k_law_runs_runs) (sound_list .nil) (fun _ _ _ => rfl))
  (soundSs_cons (soundS_assign v_law_runs_at (nfree k_law_runs_at) (sound_const rfl) (fun _ _ _ => rfl))
  (soundSs_cons (soundS_assign v_law_runs_k (nfree k_law_runs_k) (sound_const rfl) (fun _ _ _ => rfl))
  (soundSs_cons (soundS_while (sound_cmp (sound_var v_law_runs_k nn_k.1 nn_k.2) (sound_callB k_law_runs_len (N.b _ (.tail _ (.tail _ (.tail _ (.tail _ (.head _)))))) (by decide) rfl (.builtin _) rfl (.cons (sound_var v_law_runs_parts nn_parts.1 nn_parts.2) rfl .nil) op_len) op_lt rfl) (soundSs_cons (soundS_assign v_law_runs_start (nfree k_law_runs_start) (sound_var v_law_runs_at nn_at.1 nn_at.2) (fun _ _ _ => rfl))
  (soundSs_cons (soundS_if (sound_cmp (sound_index (sound_var v_law_runs_parts nn_parts.1 nn_parts.2) (sound_var v_law_runs_k nn_k.1 nn_k.2)) (sound_var v_law_runs_star nn_star.1 nn_star.2) op_is rfl) (soundSs_cons (soundS_assign v_law_runs_k (nfree k_law_runs_k) (sound_bin (sound_var v_law_runs_k nn_k.1 nn_k.2) (sound_const rfl) op_add) (fun _ _ _ => rfl))
  (soundSs_cons (soundS_while (sound_bool (.and (sound_cmp (sound_var v_law_runs_at nn_at.1 nn_at.2) (sound_callB k_law_runs_len (N.b _ (.tail _ (.tail _ (.tail _ (.tail _ (.head _)))))) (by decide) rfl (.builtin _) rfl (.cons (sound_var v_law_runs_name nn_name.1 nn_name.2) rfl .nil) op_len) op_lt rfl) (.one (sound_cmp (sound_index (sound_var v_law_runs_name nn_name.1 nn_name.2) (sound_var v_law_runs_at nn_at.1 nn_at.2)) (sound_index (sound_index (sound_var v_law_runs_parts nn_parts.1 nn_parts.2) (sound_var v_law_runs_k nn_k.1 nn_k.2)) (sound_un (sound_const rfl) op_neg (fun h => nomatch h))) op_ne rfl)))) (soundSs_cons (soundS_assign v_law_runs_at (nfree k_law_runs_at) (sound_bin (sound_var v_law_runs_at nn_at.1 nn_at.2) (sound_const rfl) op_add) (fun _ _ _ => rfl))
  soundSs_nil))
  (soundSs_cons (soundS_append v_law_runs_runs nn_runs.1 nn_runs.2 rfl (sound_slice (sound_var v_law_runs_name nn_name.1 nn_name.2) (.yes (sound_var v_law_runs_start nn_start.1 nn_start.2)) (.yes (sound_var v_law_runs_at nn_at.1 nn_at.2))) rfl)
  soundSs_nil))) soundSs_nil)
  (soundSs_cons (soundS_if (sound_bool (.or (sound_cmp (sound_var v_law_runs_at nn_at.1 nn_at.2) (sound_callB k_law_runs_len (N.b _ (.tail _ (.tail _ (.tail _ (.tail _ (.head _)))))) (by decide) rfl (.builtin _) rfl (.cons (sound_var v_law_runs_name nn_name.1 nn_name.2) rfl .nil) op_len) op_eq rfl) (.one (sound_cmp (sound_index (sound_var v_law_runs_name nn_name.1 nn_name.2) (sound_var v_law_runs_at nn_at.1 nn_at.2)) (sound_index (sound_index (sound_var v_law_runs_parts nn_parts.1 nn_parts.2) (sound_var v_law_runs_k nn_k.1 nn_k.2)) (sound_un (sound_const rfl) op_neg (fun h => nomatch h))) op_ne rfl)))) (soundSs_cons (soundS_ret (sound_const rfl))
  soundSs_nil) soundSs_nil)
  (soundSs_cons (soundS_assign v_law_runs_at (nfree k_law_runs_at) (sound_bin (sound_var v_law_runs_at nn_at.1 nn_at.2) (sound_const rfl) op_add) (fun _ _ _ => rfl))
  (soundSs_cons (soundS_assign v_law_runs_k (nfree k_law_runs_k) (sound_bin (sound_var v_law_runs_k nn_k.1 nn_k.2) (sound_const rfl) op_add) (fun _ _ _ => rfl))
  soundSs_nil))))))
  (soundSs_cons (soundS_fz ⟨_, v_law_runs_runs⟩ (soundS_ret (sound_ite (sound_cmp (sound_var v_law_runs_at nn_at.1 nn_at.2) (sound_callB k_law_runs_len (N.b _ (.tail _ (.tail _ (.tail _ (.tail _ (.head _)))))) (by decide) rfl (.builtin _) rfl (.cons (sound_var v_law_runs_name nn_name.1 nn_name.2) rfl .nil) op_len) op_eq rfl) (sound_var v_law_runs_runs nn_runs.1 nn_runs.2) (sound_const rfl))))
  soundSs_nil)))))
noncomputable def sc_law_laid : Sc := { kinds := [(PySem.Str.ofString "marks", .local), (PySem.Str.ofString "runs", .local), (PySem.Str.ofString "out", .local), (PySem.Str.ofString "k", .local), (PySem.Str.ofString "range", .globalImplicit)], vars := [(PySem.Str.ofString "marks", 0), (PySem.Str.ofString "runs", 1), (PySem.Str.ofString "out", 2), (PySem.Str.ofString "k", 3)] }
theorem v_law_laid_marks  : sc_law_laid.vars.lookup (PySem.Str.ofString "marks") = some 0 := rfl
theorem v_law_laid_out  : sc_law_laid.vars.lookup (PySem.Str.ofString "out") = some 2 := rfl
theorem k_law_laid_out  : sc_law_laid.kinds.lookup (PySem.Str.ofString "out") = some .local := rfl
theorem k_law_laid_range  : sc_law_laid.kinds.lookup (PySem.Str.ofString "range") = some .globalImplicit := rfl
theorem v_law_laid_runs  : sc_law_laid.vars.lookup (PySem.Str.ofString "runs") = some 1 := rfl
theorem v_law_laid_k  : sc_law_laid.vars.lookup (PySem.Str.ofString "k") = some 3 := rfl
theorem k_law_laid_k  : sc_law_laid.kinds.lookup (PySem.Str.ofString "k") = some .local := rfl
theorem snd_law_laid {cx : XCx} (N : GN cx fs07 bs07) : SoundSs cx sc_law_laid (nthBody PySem.Challenge.pw_dn0069_07 31) s_law_laid := by
  unfold s_law_laid
  exact (soundSs_cons (soundS_assign v_law_laid_out (nfree k_law_laid_out) (sound_index (sound_var v_law_laid_marks nn_marks.1 nn_marks.2) (sound_const rfl)) (fun _ _ _ => rfl))
  (soundSs_cons (soundS_for v_law_laid_k (nfree k_law_laid_k) (soundI_range k_law_laid_range (N.b _ (.tail _ (.tail _ (.tail _ (.tail _ (.tail _ (.tail _ (.tail _ (.tail _ (.tail _ (.tail _ (.head _)))))))))))) (.cons (sound_const rfl) rfl .nil)) (soundSs_cons (soundS_assign v_law_laid_out (nfree k_law_laid_out) (sound_bin (sound_bin (sound_var v_law_laid_out nn_out.1 nn_out.2) (sound_index (sound_var v_law_laid_runs nn_runs.1 nn_runs.2) (sound_var v_law_laid_k nn_k.1 nn_k.2)) op_add) (sound_index (sound_var v_law_laid_marks nn_marks.1 nn_marks.2) (sound_bin (sound_var v_law_laid_k nn_k.1 nn_k.2) (sound_const rfl) op_add)) op_add) (fun _ _ _ => rfl))
  soundSs_nil) (fun _ _ => rfl))
  (soundSs_cons (soundS_ret (sound_var v_law_laid_out nn_out.1 nn_out.2))
  soundSs_nil)))
noncomputable def sc_law : Sc := { kinds := [(PySem.Str.ofString "script", .local), (PySem.Str.ofString "star", .local), (PySem.Str.ofString "files", .local), (PySem.Str.ofString "k", .local), (PySem.Str.ofString "left", .cell), (PySem.Str.ofString "p", .local), (PySem.Str.ofString "folder", .local), (PySem.Str.ofString "marks", .local), (PySem.Str.ofString "runs", .local), (PySem.Str.ofString "fresh", .cell), (PySem.Str.ofString "path", .local), (PySem.Str.ofString "n", .cell), (PySem.Str.ofString "sought", .local), (PySem.Str.ofString "parts", .local), (PySem.Str.ofString "told", .local), (PySem.Str.ofString "others", .local), (PySem.Str.ofString "below", .local), (PySem.Str.ofString "moved", .local), (PySem.Str.ofString "again", .local), (PySem.Str.ofString "way", .local), (PySem.Str.ofString "range", .globalImplicit), (PySem.Str.ofString "abs", .globalImplicit), (PySem.Str.ofString "sum", .globalImplicit), (PySem.Str.ofString "join", .globalImplicit), (PySem.Str.ofString "_law_laid", .globalImplicit), (PySem.Str.ofString "dirname", .globalImplicit), (PySem.Str.ofString "basename", .globalImplicit), (PySem.Str.ofString "list", .globalImplicit), (PySem.Str.ofString "_translate", .globalImplicit), (PySem.Str.ofString "_law_runs", .globalImplicit), (PySem.Str.ofString "relpath", .globalImplicit), (PySem.Str.ofString "normpath", .globalImplicit)], vars := [(PySem.Str.ofString "script", 0), (PySem.Str.ofString "star", 1), (PySem.Str.ofString "files", 2), (PySem.Str.ofString "k", 3), (PySem.Str.ofString "left", 4), (PySem.Str.ofString "p", 5), (PySem.Str.ofString "folder", 6), (PySem.Str.ofString "marks", 7), (PySem.Str.ofString "runs", 8), (PySem.Str.ofString "fresh", 9), (PySem.Str.ofString "path", 10), (PySem.Str.ofString "n", 11), (PySem.Str.ofString "sought", 12), (PySem.Str.ofString "parts", 13), (PySem.Str.ofString "told", 14), (PySem.Str.ofString "others", 15), (PySem.Str.ofString "below", 16), (PySem.Str.ofString "moved", 17), (PySem.Str.ofString "again", 18), (PySem.Str.ofString "way", 19)] }
theorem v_law_files  : sc_law.vars.lookup (PySem.Str.ofString "files") = some 2 := rfl
theorem k_law_files  : sc_law.kinds.lookup (PySem.Str.ofString "files") = some .local := rfl
theorem k_law_range  : sc_law.kinds.lookup (PySem.Str.ofString "range") = some .globalImplicit := rfl
theorem v_law_script  : sc_law.vars.lookup (PySem.Str.ofString "script") = some 0 := rfl
theorem v_law_k  : sc_law.vars.lookup (PySem.Str.ofString "k") = some 3 := rfl
theorem k_law_sum  : sc_law.kinds.lookup (PySem.Str.ofString "sum") = some .globalImplicit := rfl
theorem k_law_abs  : sc_law.kinds.lookup (PySem.Str.ofString "abs") = some .globalImplicit := rfl
theorem v_law_left  : sc_law.vars.lookup (PySem.Str.ofString "left") = some 4 := rfl
theorem k_law_left  : sc_law.kinds.lookup (PySem.Str.ofString "left") = some .cell := rfl
theorem v_law_folder  : sc_law.vars.lookup (PySem.Str.ofString "folder") = some 6 := rfl
theorem k_law_folder  : sc_law.kinds.lookup (PySem.Str.ofString "folder") = some .local := rfl
theorem v_law_marks  : sc_law.vars.lookup (PySem.Str.ofString "marks") = some 7 := rfl
theorem k_law_marks  : sc_law.kinds.lookup (PySem.Str.ofString "marks") = some .local := rfl
theorem v_law_runs  : sc_law.vars.lookup (PySem.Str.ofString "runs") = some 8 := rfl
theorem k_law_runs  : sc_law.kinds.lookup (PySem.Str.ofString "runs") = some .local := rfl
theorem v_law_p  : sc_law.vars.lookup (PySem.Str.ofString "p") = some 5 := rfl
theorem k_law_p  : sc_law.kinds.lookup (PySem.Str.ofString "p") = some .local := rfl
theorem k_law_k  : sc_law.kinds.lookup (PySem.Str.ofString "k") = some .local := rfl
theorem v_law_fresh  : sc_law.vars.lookup (PySem.Str.ofString "fresh") = some 9 := rfl
theorem k_law_fresh  : sc_law.kinds.lookup (PySem.Str.ofString "fresh") = some .cell := rfl
theorem k_law_law_laid  : sc_law.kinds.lookup (PySem.Str.ofString "_law_laid") = some .globalImplicit := rfl
theorem k_law_join  : sc_law.kinds.lookup (PySem.Str.ofString "join") = some .globalImplicit := rfl
theorem v_law_path  : sc_law.vars.lookup (PySem.Str.ofString "path") = some 10 := rfl
theorem k_law_path  : sc_law.kinds.lookup (PySem.Str.ofString "path") = some .local := rfl
theorem k_law_dirname  : sc_law.kinds.lookup (PySem.Str.ofString "dirname") = some .globalImplicit := rfl
theorem k_law_basename  : sc_law.kinds.lookup (PySem.Str.ofString "basename") = some .globalImplicit := rfl
theorem v_law_n  : sc_law.vars.lookup (PySem.Str.ofString "n") = some 11 := rfl
theorem k_law_list  : sc_law.kinds.lookup (PySem.Str.ofString "list") = some .globalImplicit := rfl
theorem v_law_sought  : sc_law.vars.lookup (PySem.Str.ofString "sought") = some 12 := rfl
theorem k_law_sought  : sc_law.kinds.lookup (PySem.Str.ofString "sought") = some .local := rfl
theorem v_law_star  : sc_law.vars.lookup (PySem.Str.ofString "star") = some 1 := rfl
theorem k_law_translate  : sc_law.kinds.lookup (PySem.Str.ofString "_translate") = some .globalImplicit := rfl
theorem v_law_parts  : sc_law.vars.lookup (PySem.Str.ofString "parts") = some 13 := rfl
theorem k_law_parts  : sc_law.kinds.lookup (PySem.Str.ofString "parts") = some .local := rfl
theorem k_law_law_runs  : sc_law.kinds.lookup (PySem.Str.ofString "_law_runs") = some .globalImplicit := rfl
theorem v_law_told  : sc_law.vars.lookup (PySem.Str.ofString "told") = some 14 := rfl
theorem k_law_told  : sc_law.kinds.lookup (PySem.Str.ofString "told") = some .local := rfl
theorem v_law_others  : sc_law.vars.lookup (PySem.Str.ofString "others") = some 15 := rfl
theorem k_law_others  : sc_law.kinds.lookup (PySem.Str.ofString "others") = some .local := rfl
theorem v_law_below  : sc_law.vars.lookup (PySem.Str.ofString "below") = some 16 := rfl
theorem k_law_below  : sc_law.kinds.lookup (PySem.Str.ofString "below") = some .local := rfl
theorem v_law_moved  : sc_law.vars.lookup (PySem.Str.ofString "moved") = some 17 := rfl
theorem k_law_moved  : sc_law.kinds.lookup (PySem.Str.ofString "moved") = some .local := rfl
theorem v_law_again  : sc_law.vars.lookup (PySem.Str.ofString "again") = some 18 := rfl
theorem k_law_again  : sc_law.kinds.lookup (PySem.Str.ofString "again") = some .local := rfl
theorem k_law_relpath  : sc_law.kinds.lookup (PySem.Str.ofString "relpath") = some .globalImplicit := rfl
theorem v_law_way  : sc_law.vars.lookup (PySem.Str.ofString "way") = some 19 := rfl
theorem k_law_way  : sc_law.kinds.lookup (PySem.Str.ofString "way") = some .local := rfl
theorem k_law_normpath  : sc_law.kinds.lookup (PySem.Str.ofString "normpath") = some .globalImplicit := rfl
theorem k_law_n  : sc_law.kinds.lookup (PySem.Str.ofString "n") = some .cell := rfl
theorem snd_law {cx : XCx} (N : GN cx fs07 bs07) : SoundSs cx sc_law ((nthBody PySem.Challenge.pw_dn0069_07 32).drop 1) s_law := by
  unfold s_law
  exact (soundSs_cons (soundS_assignO v_law_files (nfree k_law_files) (sound_list .nil) (fun _ _ _ => rfl))
  (soundSs_cons (soundS_for v_law_k (nfree k_law_k) (soundI_range k_law_range (N.b _ (.tail _ (.tail _ (.tail _ (.tail _ (.tail _ (.tail _ (.tail _ (.tail _ (.tail _ (.tail _ (.head _)))))))))))) (.cons (sound_const rfl) rfl .nil)) (soundSs_cons (soundS_assign v_law_left (nfree k_law_left) (sound_bin (sound_callB k_law_abs (N.b _ (.tail _ (.tail _ (.tail _ (.tail _ (.tail _ (.head _))))))) (by decide) rfl (.builtin _) rfl (.cons (sound_callB k_law_sum (N.b _ (.tail _ (.tail _ (.tail _ (.tail _ (.tail _ (.tail _ (.head _)))))))) (by decide) rfl (.builtin _) rfl (.cons (sound_slice3 (sound_var v_law_script nn_script.1 nn_script.2) (.yes (sound_var v_law_k nn_k.1 nn_k.2)) .no (sound_const rfl)) rfl .nil) op_sum) rfl .nil) op_abs) (sound_index (sound_tup (.cons (sound_const rfl) rfl (.cons (sound_const rfl) rfl (.cons (sound_const rfl) rfl (.cons (sound_const rfl) rfl (.cons (sound_const rfl) rfl .nil)))))) (sound_var v_law_k nn_k.1 nn_k.2)) op_add) (fun _ _ _ => rfl))
  (soundSs_cons (soundS_assign v_law_folder (nfree k_law_folder) (sound_bin (sound_const rfl) (m_join rfl rfl (by decide) (sound_const rfl) (.cons (sound_comp ⟨targetC_name, one_len, (soundI_range k_law_range (N.b _ (.tail _ (.tail _ (.tail _ (.tail _ (.tail _ (.tail _ (.tail _ (.tail _ (.tail _ (.tail _ (.head _)))))))))))) (.cons (sound_bin (sound_var v_law_left nn_left.1 nn_left.2) (sound_const rfl) op_mod) rfl .nil)), compOK_of rfl, tests_nil, (sound_index (sound_tup (.cons (sound_const rfl) rfl (.cons (sound_const rfl) rfl (.cons (sound_const rfl) rfl .nil)))) (sound_bin (sound_bin (sound_var rfl nn_left.1 nn_left.2) (sound_bin (sound_const rfl) (sound_var rfl nn_p.1 nn_p.2) op_pow) op_div) (sound_const rfl) op_mod)), fun _ _ => rfl⟩) rfl .nil)) op_add) (fun _ _ _ => rfl))
  (soundSs_cons (soundS_assignC ⟨targetC_name, one_len, (soundI_range k_law_range (N.b _ (.tail _ (.tail _ (.tail _ (.tail _ (.tail _ (.tail _ (.tail _ (.tail _ (.tail _ (.tail _ (.head _)))))))))))) (.cons (sound_const rfl) rfl .nil)), compOK_of rfl, tests_nil, (sound_index (sound_const (by kernel_rfl)) (sound_bin (sound_bin (sound_var rfl nn_left.1 nn_left.2) (sound_bin (sound_const rfl) (sound_var rfl nn_p.1 nn_p.2) op_pow) op_div) (sound_const rfl) op_mod)), fun _ _ => rfl⟩ v_law_marks (nfree k_law_marks) (swapC k_law_marks rfl rfl))
  (soundSs_cons (soundS_assign v_law_left (nfree k_law_left) (sound_bin (sound_var v_law_left nn_left.1 nn_left.2) (sound_const rfl) op_div) (fun _ _ _ => rfl))
  (soundSs_cons (soundS_assignO v_law_runs (nfree k_law_runs) (sound_list .nil) (fun _ _ _ => rfl))
  (soundSs_cons (soundS_for v_law_p (nfree k_law_p) (soundI_range k_law_range (N.b _ (.tail _ (.tail _ (.tail _ (.tail _ (.tail _ (.tail _ (.tail _ (.tail _ (.tail _ (.tail _ (.head _)))))))))))) (.cons (sound_const rfl) rfl .nil)) (soundSs_cons (soundS_append v_law_runs nn_runs.1 nn_runs.2 rfl (m_join rfl rfl (by decide) (sound_const rfl) (.cons (sound_comp ⟨targetC_name, one_len, (soundI_range k_law_range (N.b _ (.tail _ (.tail _ (.tail _ (.tail _ (.tail _ (.tail _ (.tail _ (.tail _ (.tail _ (.tail _ (.head _)))))))))))) (.cons (sound_bin (sound_var v_law_left nn_left.1 nn_left.2) (sound_const rfl) op_mod) rfl .nil)), compOK_of rfl, tests_nil, (sound_index (sound_const rfl) (sound_bin (sound_bin (sound_var rfl nn_left.1 nn_left.2) (sound_bin (sound_const rfl) (sound_var rfl nn_q.1 nn_q.2) op_pow) op_div) (sound_const rfl) op_mod)), fun _ _ => rfl⟩) rfl .nil)) rfl)
  (soundSs_cons (soundS_assign v_law_left (nfree k_law_left) (sound_bin (sound_var v_law_left nn_left.1 nn_left.2) (sound_const rfl) op_div) (fun _ _ _ => rfl))
  soundSs_nil)) (fun _ _ => rfl))
  (soundSs_cons (soundS_fz ⟨_, v_law_runs⟩ (soundS_append v_law_files nn_files.1 nn_files.2 rfl (sound_tup (.cons (sound_var v_law_folder nn_folder.1 nn_folder.2) rfl (.cons (sound_var v_law_marks nn_marks.1 nn_marks.2) rfl (.cons (sound_var v_law_runs nn_runs.1 nn_runs.2) rfl .nil)))) rfl))
  soundSs_nil))))))) (fun _ _ => rfl))
  (soundSs_cons (soundS_assign v_law_fresh (nfree k_law_fresh) (sound_bin (sound_callB k_law_abs (N.b _ (.tail _ (.tail _ (.tail _ (.tail _ (.tail _ (.head _))))))) (by decide) rfl (.builtin _) rfl (.cons (sound_callB k_law_sum (N.b _ (.tail _ (.tail _ (.tail _ (.tail _ (.tail _ (.tail _ (.head _)))))))) (by decide) rfl (.builtin _) rfl (.cons (sound_slice3 (sound_var v_law_script nn_script.1 nn_script.2) (.yes (sound_const rfl)) .no (sound_const rfl)) rfl .nil) op_sum) rfl .nil) op_abs) (sound_const rfl) op_add) (fun _ _ _ => rfl))
  (soundSs_cons (soundS_for v_law_k (nfree k_law_k) (soundI_range k_law_range (N.b _ (.tail _ (.tail _ (.tail _ (.tail _ (.tail _ (.tail _ (.tail _ (.tail _ (.tail _ (.tail _ (.head _)))))))))))) (.cons (sound_const rfl) rfl .nil)) (soundSs_cons (soundS_assign3 v_law_folder v_law_marks v_law_runs (nfree k_law_folder) (nfree k_law_marks) (nfree k_law_runs) (sound_index (sound_var v_law_files nn_files.1 nn_files.2) (sound_var v_law_k nn_k.1 nn_k.2)) (fun _ => rfl) (fun _ => rfl))
  (soundSs_cons (soundS_fz ⟨_, v_law_runs⟩ (soundS_assign v_law_path (nfree k_law_path) (sound_call k_law_join (N.f _ 4 (.tail _ (.tail _ (.tail _ (.tail _ (.head _)))))) rfl (.cons (sound_var v_law_folder nn_folder.1 nn_folder.2) rfl (.cons (sound_call k_law_law_laid (N.f _ 32 (.tail _ (.tail _ (.tail _ (.tail _ (.tail _ (.tail _ (.tail _ (.tail _ (.tail _ (.tail _ (.tail _ (.tail _ (.tail _ (.head _))))))))))))))) rfl (.cons (sound_var v_law_marks nn_marks.1 nn_marks.2) rfl (.cons (sound_var v_law_runs nn_runs.1 nn_runs.2) rfl .nil))) rfl .nil))) (fun _ _ _ => rfl)))
  (soundSs_cons (soundS_fz ⟨_, v_law_runs⟩ (soundS_if (sound_bool (.or (sound_cmp (sound_call k_law_dirname (N.f _ 6 (.tail _ (.tail _ (.tail _ (.tail _ (.tail _ (.head _))))))) rfl (.cons (sound_var v_law_path nn_path.1 nn_path.2) rfl .nil)) (sound_var v_law_folder nn_folder.1 nn_folder.2) op_ne rfl) (.one (sound_cmp (sound_call k_law_basename (N.f _ 8 (.tail _ (.tail _ (.tail _ (.tail _ (.tail _ (.tail _ (.tail _ (.head _))))))))) rfl (.cons (sound_var v_law_path nn_path.1 nn_path.2) rfl .nil)) (sound_call k_law_law_laid (N.f _ 32 (.tail _ (.tail _ (.tail _ (.tail _ (.tail _ (.tail _ (.tail _ (.tail _ (.tail _ (.tail _ (.tail _ (.tail _ (.tail _ (.head _))))))))))))))) rfl (.cons (sound_var v_law_marks nn_marks.1 nn_marks.2) rfl (.cons (sound_var v_law_runs nn_runs.1 nn_runs.2) rfl .nil))) op_ne rfl)))) (soundSs_cons (soundS_ret (sound_const rfl))
  soundSs_nil) soundSs_nil))
  (soundSs_cons (soundS_for v_law_n (nfree k_law_n) (soundI_range k_law_range (N.b _ (.tail _ (.tail _ (.tail _ (.tail _ (.tail _ (.tail _ (.tail _ (.tail _ (.tail _ (.tail _ (.head _)))))))))))) (.cons (sound_const rfl) rfl .nil)) (soundSs_cons (soundS_assignO v_law_sought (nfree k_law_sought) (sound_callB k_law_list (N.b _ (.tail _ (.tail _ (.head _)))) (by decide) rfl (.type _) rfl (.cons (sound_index (sound_index (sound_var v_law_files nn_files.1 nn_files.2) (sound_var v_law_n nn_n.1 nn_n.2)) (sound_const rfl)) rfl .nil) op_listOf) (fun _ _ _ => rfl))
  (soundSs_cons (soundS_if (sound_cmp (sound_bin (sound_bin (sound_var v_law_n nn_n.1 nn_n.2) (sound_var v_law_k nn_k.1 nn_k.2) op_add) (sound_const rfl) op_mod) (sound_const rfl) op_eq rfl) (soundSs_cons (soundS_setItem v_law_sought nn_sought.1 nn_sought.2 (sound_const rfl) (sound_index (sound_const (by kernel_rfl)) (sound_bin (sound_bin (m_index rfl rfl (by decide) (sound_const (by kernel_rfl)) (.cons (sound_index (sound_var v_law_sought nn_sought.1 nn_sought.2) (sound_const rfl)) rfl .nil)) (sound_const rfl) op_add) (sound_const rfl) op_mod)) (fun _ => rfl))
  soundSs_nil) soundSs_nil)
  (soundSs_cons (soundS_fz ⟨_, v_law_sought⟩ (soundS_assign v_law_parts (nfree k_law_parts) (sound_call k_law_translate (N.f _ 1 (.tail _ (.head _))) rfl (.cons (sound_call k_law_law_laid (N.f _ 32 (.tail _ (.tail _ (.tail _ (.tail _ (.tail _ (.tail _ (.tail _ (.tail _ (.tail _ (.tail _ (.tail _ (.tail _ (.tail _ (.head _))))))))))))))) rfl (.cons (sound_var v_law_sought nn_sought.1 nn_sought.2) rfl (.cons (sound_bin (sound_list (.cons (sound_const rfl) rfl .nil)) (sound_const rfl) op_mul) rfl .nil))) rfl (.cons (sound_var v_law_star nn_star.1 nn_star.2) rfl (.cons (sound_const rfl) rfl .nil)))) (fun _ _ _ => rfl)))
  (soundSs_cons (soundS_assign v_law_told (nfree k_law_told) (sound_call k_law_law_runs (N.f _ 31 (.tail _ (.tail _ (.tail _ (.tail _ (.tail _ (.tail _ (.tail _ (.tail _ (.tail _ (.tail _ (.tail _ (.tail _ (.head _)))))))))))))) rfl (.cons (sound_var v_law_parts nn_parts.1 nn_parts.2) rfl (.cons (sound_var v_law_star nn_star.1 nn_star.2) rfl (.cons (sound_call k_law_basename (N.f _ 8 (.tail _ (.tail _ (.tail _ (.tail _ (.tail _ (.tail _ (.tail _ (.head _))))))))) rfl (.cons (sound_var v_law_path nn_path.1 nn_path.2) rfl .nil)) rfl .nil)))) (fun _ _ _ => rfl))
  (soundSs_cons (soundS_if (sound_cmp (sound_cmp (sound_var v_law_told nn_told.1 nn_told.2) (sound_const rfl) op_isnot rfl) (sound_cmp (sound_var v_law_sought nn_sought.1 nn_sought.2) (sound_var v_law_marks nn_marks.1 nn_marks.2) op_eq rfl) op_ne rfl) (soundSs_cons (soundS_ret (sound_const rfl))
  soundSs_nil) soundSs_nil)
  (soundSs_cons (soundS_if (sound_cmp (sound_var v_law_told nn_told.1 nn_told.2) (sound_const rfl) op_is rfl) (soundSs_cons soundS_continue
  soundSs_nil) soundSs_nil)
  (soundSs_cons (soundS_if (sound_cmp (sound_var v_law_told nn_told.1 nn_told.2) (sound_var v_law_runs nn_runs.1 nn_runs.2) op_ne rfl) (soundSs_cons (soundS_ret (sound_const rfl))
  soundSs_nil) soundSs_nil)
  (soundSs_cons (soundS_assignC ⟨targetC_name, one_len, (soundI_range k_law_range (N.b _ (.tail _ (.tail _ (.tail _ (.tail _ (.tail _ (.tail _ (.tail _ (.tail _ (.tail _ (.tail _ (.head _)))))))))))) (.cons (sound_const rfl) rfl .nil)), compOK_of rfl, tests_nil, (sound_index (sound_const (by kernel_rfl)) (sound_bin (sound_bin (sound_var rfl nn_fresh.1 nn_fresh.2) (sound_bin (sound_const rfl) (sound_bin (sound_var rfl nn_p.1 nn_p.2) (sound_var rfl nn_n.1 nn_n.2) op_add) op_pow) op_div) (sound_const rfl) op_mod)), fun _ _ => rfl⟩ v_law_others (nfree k_law_others) (swapC k_law_others rfl rfl))
  (soundSs_cons (soundS_assign v_law_below (nfree k_law_below) (sound_bin (sound_const rfl) (m_join rfl rfl (by decide) (sound_const rfl) (.cons (sound_comp ⟨targetC_name, one_len, (soundI_range k_law_range (N.b _ (.tail _ (.tail _ (.tail _ (.tail _ (.tail _ (.tail _ (.tail _ (.tail _ (.tail _ (.tail _ (.head _)))))))))))) (.cons (sound_bin (sound_var v_law_n nn_n.1 nn_n.2) (sound_const rfl) op_mod) rfl .nil)), compOK_of rfl, tests_nil, (sound_index (sound_const rfl) (sound_bin (sound_bin (sound_var rfl nn_fresh.1 nn_fresh.2) (sound_bin (sound_const rfl) (sound_var rfl nn_p.1 nn_p.2) op_pow) op_div) (sound_const rfl) op_mod)), fun _ _ => rfl⟩) rfl .nil)) op_add) (fun _ _ _ => rfl))
  (soundSs_cons (soundS_assign v_law_moved (nfree k_law_moved) (sound_call k_law_join (N.f _ 4 (.tail _ (.tail _ (.tail _ (.tail _ (.head _)))))) rfl (.cons (sound_var v_law_below nn_below.1 nn_below.2) rfl (.cons (sound_call k_law_law_laid (N.f _ 32 (.tail _ (.tail _ (.tail _ (.tail _ (.tail _ (.tail _ (.tail _ (.tail _ (.tail _ (.tail _ (.tail _ (.tail _ (.tail _ (.head _))))))))))))))) rfl (.cons (sound_var v_law_others nn_others.1 nn_others.2) rfl (.cons (sound_slice3 (sound_var v_law_told nn_told.1 nn_told.2) .no .no (sound_un (sound_const rfl) op_neg (fun h => nomatch h))) rfl .nil))) rfl .nil))) (fun _ _ _ => rfl))
  (soundSs_cons (soundS_assign v_law_again (nfree k_law_again) (sound_call k_law_law_runs (N.f _ 31 (.tail _ (.tail _ (.tail _ (.tail _ (.tail _ (.tail _ (.tail _ (.tail _ (.tail _ (.tail _ (.tail _ (.tail _ (.head _)))))))))))))) rfl (.cons (sound_call k_law_translate (N.f _ 1 (.tail _ (.head _))) rfl (.cons (sound_call k_law_law_laid (N.f _ 32 (.tail _ (.tail _ (.tail _ (.tail _ (.tail _ (.tail _ (.tail _ (.tail _ (.tail _ (.tail _ (.tail _ (.tail _ (.tail _ (.head _))))))))))))))) rfl (.cons (sound_var v_law_others nn_others.1 nn_others.2) rfl (.cons (sound_bin (sound_list (.cons (sound_const rfl) rfl .nil)) (sound_const rfl) op_mul) rfl .nil))) rfl (.cons (sound_var v_law_star nn_star.1 nn_star.2) rfl (.cons (sound_const rfl) rfl .nil)))) rfl (.cons (sound_var v_law_star nn_star.1 nn_star.2) rfl (.cons (sound_call k_law_basename (N.f _ 8 (.tail _ (.tail _ (.tail _ (.tail _ (.tail _ (.tail _ (.tail _ (.head _))))))))) rfl (.cons (sound_var v_law_moved nn_moved.1 nn_moved.2) rfl .nil)) rfl .nil)))) (fun _ _ _ => rfl))
  (soundSs_cons (soundS_if (sound_cmp (sound_var v_law_again nn_again.1 nn_again.2) (sound_slice3 (sound_var v_law_runs nn_runs.1 nn_runs.2) .no .no (sound_un (sound_const rfl) op_neg (fun h => nomatch h))) op_ne rfl) (soundSs_cons (soundS_ret (sound_const rfl))
  soundSs_nil) soundSs_nil)
  (soundSs_cons (soundS_if (sound_bool (.and (sound_cmp (sound_var v_law_others nn_others.1 nn_others.2) (sound_var v_law_marks nn_marks.1 nn_marks.2) op_ne rfl) (.one (sound_cmp (sound_call k_law_law_runs (N.f _ 31 (.tail _ (.tail _ (.tail _ (.tail _ (.tail _ (.tail _ (.tail _ (.tail _ (.tail _ (.tail _ (.tail _ (.tail _ (.head _)))))))))))))) rfl (.cons (sound_var v_law_parts nn_parts.1 nn_parts.2) rfl (.cons (sound_var v_law_star nn_star.1 nn_star.2) rfl (.cons (sound_call k_law_basename (N.f _ 8 (.tail _ (.tail _ (.tail _ (.tail _ (.tail _ (.tail _ (.tail _ (.head _))))))))) rfl (.cons (sound_var v_law_moved nn_moved.1 nn_moved.2) rfl .nil)) rfl .nil)))) (sound_const rfl) op_isnot rfl)))) (soundSs_cons (soundS_ret (sound_const rfl))
  soundSs_nil) soundSs_nil)
  (soundSs_cons (soundS_assign v_law_way (nfree k_law_way) (sound_call k_law_join (N.f _ 4 (.tail _ (.tail _ (.tail _ (.tail _ (.head _)))))) rfl (.cons (sound_call k_law_dirname (N.f _ 6 (.tail _ (.tail _ (.tail _ (.tail _ (.tail _ (.head _))))))) rfl (.cons (sound_var v_law_moved nn_moved.1 nn_moved.2) rfl .nil)) rfl (.cons (sound_call k_law_relpath (N.f _ 11 (.tail _ (.tail _ (.tail _ (.tail _ (.tail _ (.tail _ (.tail _ (.tail _ (.tail _ (.tail _ (.head _)))))))))))) rfl (.cons (sound_var v_law_folder nn_folder.1 nn_folder.2) rfl (.cons (sound_call k_law_dirname (N.f _ 6 (.tail _ (.tail _ (.tail _ (.tail _ (.tail _ (.head _))))))) rfl (.cons (sound_var v_law_moved nn_moved.1 nn_moved.2) rfl .nil)) rfl .nil))) rfl .nil))) (fun _ _ _ => rfl))
  (soundSs_cons (soundS_fz ⟨_, v_law_sought⟩ (soundS_if (sound_bool (.or (sound_cmp (sound_call k_law_normpath (N.f _ 9 (.tail _ (.tail _ (.tail _ (.tail _ (.tail _ (.tail _ (.tail _ (.tail _ (.head _)))))))))) rfl (.cons (sound_var v_law_way nn_way.1 nn_way.2) rfl .nil)) (sound_var v_law_folder nn_folder.1 nn_folder.2) op_ne rfl) (.one (sound_cmp (sound_call k_law_join (N.f _ 4 (.tail _ (.tail _ (.tail _ (.tail _ (.head _)))))) rfl (.cons (sound_call k_law_normpath (N.f _ 9 (.tail _ (.tail _ (.tail _ (.tail _ (.tail _ (.tail _ (.tail _ (.tail _ (.head _)))))))))) rfl (.cons (sound_var v_law_way nn_way.1 nn_way.2) rfl .nil)) rfl (.cons (sound_call k_law_law_laid (N.f _ 32 (.tail _ (.tail _ (.tail _ (.tail _ (.tail _ (.tail _ (.tail _ (.tail _ (.tail _ (.tail _ (.tail _ (.tail _ (.tail _ (.head _))))))))))))))) rfl (.cons (sound_var v_law_sought nn_sought.1 nn_sought.2) rfl (.cons (sound_slice3 (sound_var v_law_again nn_again.1 nn_again.2) .no .no (sound_un (sound_const rfl) op_neg (fun h => nomatch h))) rfl .nil))) rfl .nil))) (sound_var v_law_path nn_path.1 nn_path.2) op_ne rfl)))) (soundSs_cons (soundS_ret (sound_const rfl))
  soundSs_nil) soundSs_nil))
  soundSs_nil))))))))))))))) (fun _ _ => rfl))
  soundSs_nil)))) (fun _ _ => rfl))
  (soundSs_cons (soundS_ret (sound_const rfl))
  soundSs_nil)))))
end Mine
end W07x
section P0x
open PySem
namespace Mine
set_option genInjectivity false in
structure At (pat : List Nat) (p : Nat) (u : List Nat) : Prop where
  drop : pat.drop p = u
  le : p ≤ pat.length
  small : pat.length ≤ 100000
noncomputable def P (p k : Nat) : D := .int ((p + k : Nat) : Int)
noncomputable def N (pat : List Nat) : D := .int (pat.length : Int)
section
variable {pat u : List Nat} {p : Nat}
theorem At.len (H : At pat p u) : pat.length = p + u.length := by
  have := congrArg List.length H.drop
  rw [List.length_drop] at this
  have := H.le
  omega
theorem At.get (H : At pat p u) (k : Nat) : pat[p + k]? = u[k]? := by rw [← H.drop, List.getElem?_drop]
theorem small_in {z : Int} (h1 : 0 ≤ z) (h2 : z ≤ 200000) : small z = true := by
  unfold small
  simp only [Bool.and_eq_true, decide_eq_true_eq]
  omega
theorem At.sm (H : At pat p u) {k : Nat} (hk : k ≤ 100000) : Mine.small ((p + k : Nat) : Int) = true :=
  small_in (Int.natCast_nonneg _) (by have h := Nat.add_le_add (Nat.le_trans H.le H.small) hk; clear hk; omega)
theorem P_add (k j : Nat) : opF .add [P p k, .int (j : Int)] = some (.val (P p (k + j))) := by
  show some (R.val (.int (((p + k : Nat) : Int) + (j : Int)))) = some (R.val (.int ((p + (k + j) : Nat) : Int)))
  rw [show (((p + k : Nat) : Int) + (j : Int)) = ((p + (k + j) : Nat) : Int) by omega]
theorem idx (H : At pat p u) {k : Nat} (hk : k ≤ 100000) : opF .index [.str pat, P p k] = (u[k]?).map fun c => .val (.str [c]) := by
  have hl := H.len
  have hs := H.small
  show (if small ((p + k : Nat) : Int) then (match place ((p + k : Nat) : Int) pat.length with | some k => (pat[k]?).map fun c => R.val (.str [c]) | Option.none => Option.none) else Option.none) = _
  rw [H.sm hk]
  simp only [if_true]
  unfold place
  rw [if_pos (Int.natCast_nonneg _)]
  by_cases h : p + k < pat.length
  · rw [if_pos (by exact_mod_cast h)]
    simp only [Int.toNat_natCast]
    rw [H.get]
  · rw [if_neg (by exact_mod_cast h)]
    rw [← H.get, List.getElem?_eq_none (Nat.not_lt.mp h)]
    rfl
theorem some_lt {k : Nat} : (u[k]?).isSome = decide (k < u.length) := by
  by_cases h : k < u.length
  · rw [List.getElem?_eq_getElem h]; simp [h]
  · rw [List.getElem?_eq_none (Nat.not_lt.mp h)]; simp [h]
theorem lt_N (H : At pat p u) {k : Nat} : opF .lt [P p k, N pat] = some (.val (.bool (u[k]?).isSome)) := by
  have hl := H.len
  show some (R.val (.bool (decide (((p + k : Nat) : Int) < (pat.length : Int))))) = _
  rw [some_lt]
  congr 4
  simp only [eq_iff_iff]
  omega
theorem ge_N (H : At pat p u) {k : Nat} : opF .ge [P p k, N pat] = some (.val (.bool (!(u[k]?).isSome))) := by
  have hl := H.len
  show some (R.val (.bool (decide ((pat.length : Int) ≤ ((p + k : Nat) : Int))))) = _
  rw [some_lt, ← decide_not]
  congr 4
  simp only [eq_iff_iff]
  omega
theorem lt_0 {k : Nat} : opF .lt [P p k, .int 0] = some (.val (.bool false)) := by
  show some (R.val (.bool (decide (((p + k : Nat) : Int) < 0)))) = _
  rw [decide_eq_false (by omega)]
theorem sl (H : At pat p u) {a b : Nat} (ha : a ≤ 100000) (hb : b ≤ 100000) : opF .slice [.str pat, P p a, P p b] = some (.val (.str (cut u a b))) := by
  have hl := H.len
  have hs := H.small
  have cl : ∀ k d : Nat, k ≤ 100000 → bound (P p k) d pat.length = some (min (p + k) pat.length) := fun k d hk => by
    show (if small ((p + k : Nat) : Int) then some (clip ((p + k : Nat) : Int) pat.length) else Option.none) = _
    rw [H.sm hk]
    simp only [if_true]
    unfold clip
    rw [if_neg (Int.not_lt.mpr (Int.natCast_nonneg _))]
    by_cases h : p + k < pat.length
    · rw [if_pos (by exact_mod_cast h), Int.toNat_natCast, Nat.min_eq_left (Nat.le_of_lt h)]
    · rw [if_neg (by exact_mod_cast h), Nat.min_eq_right (Nat.not_lt.mp h)]
  show (match bound (P p a) 0 pat.length, bound (P p b) pat.length pat.length with
    | some lo, some hi => some (R.val (.str (cut pat lo hi)))
    | _, _ => Option.none) = _
  rw [cl a 0 ha, cl b _ hb]
  show some (R.val (.str (cut pat (min (p + a) pat.length) (min (p + b) pat.length)))) = _
  congr 3
  unfold cut
  rw [← H.drop, List.drop_drop]
  have e1 : pat.drop (min (p + a) pat.length) = pat.drop (p + a) := by
    by_cases h : p + a ≤ pat.length
    · rw [Nat.min_eq_left h]
    · rw [Nat.min_eq_right (Nat.le_of_not_le h), List.drop_eq_nil_of_le (Nat.le_refl _), List.drop_eq_nil_of_le (Nat.le_of_not_le h)]
  rw [e1]
  by_cases h : p + b ≤ pat.length
  · rw [Nat.min_eq_left h]
    by_cases h' : p + a ≤ pat.length
    · rw [Nat.min_eq_left h', Nat.add_sub_add_left]
    · rw [List.drop_eq_nil_of_le (i := p + a) (Nat.le_of_not_le h')]; simp
  · have h2 := Nat.le_of_not_le h
    rw [Nat.min_eq_right h2]
    rw [List.take_of_length_le (by rw [List.length_drop]; clear hs ha hb cl e1 hl h; omega), List.take_of_length_le (by rw [List.length_drop]; clear hs ha hb cl e1 hl h; omega)]
end
end Mine
end P0x
section P1x
open PySem PySem.StrLaws PySem.Builtin PySem.Builtin.Str
namespace Mine
theorem sub1 (a : List Nat) (c i hi : Nat) : (i + (⟨#[c]⟩ : PySem.Str).length ≤ hi ∧ subAt ⟨a.toArray⟩ ⟨#[c]⟩ i = true) ↔ (i < hi ∧ a[i]? = some c) := by
  rw [subAt_eq]
  show (i + 1 ≤ hi ∧ ((a.drop i).take 1 == [c]) = true) ↔ _
  rw [take1_drop]
  exact ⟨fun h => ⟨by omega, h.2⟩, fun h => ⟨by omega, h.2⟩⟩
theorem contains1 (b : List Nat) (c : Nat) : Txt.contains ⟨b.toArray⟩ ⟨[c].toArray⟩ = decide (c ∈ b) := found_one ⟨b.toArray⟩ c
theorem startswith1 (a : List Nat) (c : Nat) : Txt.startswith ⟨a.toArray⟩ ⟨[c].toArray⟩ = decide (a.head? = some c) := by
  unfold Txt.startswith
  have h := sub1 a c 0 a.length
  rw [Bool.eq_iff_iff, Bool.and_eq_true, decide_eq_true_eq, decide_eq_true_eq]
  rw [List.head?_eq_getElem?]
  refine h.trans ⟨fun x => x.2, fun x => ⟨?_, x⟩⟩
  rcases Nat.lt_or_ge 0 a.length with q | q
  · exact q
  · rw [List.getElem?_eq_none q] at x; cases x
theorem endswith1 (a : List Nat) (c : Nat) : Txt.endswith ⟨a.toArray⟩ ⟨[c].toArray⟩ = decide (a.getLast? = some c) := by
  unfold Txt.endswith
  rw [Bool.eq_iff_iff, Bool.and_eq_true, decide_eq_true_eq, decide_eq_true_eq]
  have h := sub1 a c (a.length - 1) a.length
  show (0 + 1 ≤ a.length ∧ subAt ⟨a.toArray⟩ ⟨#[c]⟩ (a.length - 1) = true) ↔ _
  rw [List.getLast?_eq_getElem?]
  rcases Nat.lt_or_ge 0 a.length with q | q
  · constructor
    · rintro ⟨x, y⟩
      exact (h.mp ⟨by show a.length - 1 + 1 ≤ a.length; omega, y⟩).2
    · intro x
      exact ⟨by omega, (h.mpr ⟨by omega, x⟩).2⟩
  · constructor
    · rintro ⟨x, y⟩; omega
    · intro x
      rw [List.getElem?_eq_none (by omega)] at x; cases x
theorem rfind_at {x y : List Nat} {c : Nat} (h : c ∉ y) : Txt.rfind ⟨(x ++ c :: y).toArray⟩ ⟨[c].toArray⟩ = (x.length : Int) := by
  unfold Txt.rfind
  have at' : ∀ i, StrLaws.At ⟨(x ++ c :: y).toArray⟩ ⟨[c].toArray⟩ (PySem.Str.mk (x ++ c :: y).toArray).length i ↔ (i < (x ++ c :: y).length ∧ (x ++ c :: y)[i]? = some c) := fun i => sub1 _ c i _
  rcases last_spec ⟨(x ++ c :: y).toArray⟩ ⟨[c].toArray⟩ with ⟨e, hn⟩ | ⟨i, e, hA, hn⟩
  · exact absurd ((at' x.length).mpr ⟨by simp, by simp⟩) (hn _)
  · rw [e]
    have h1 := ((at' i).mp hA).2
    have : i = x.length := by
      rcases Nat.lt_trichotomy i x.length with q | q | q
      · exact absurd ((at' x.length).mpr ⟨by simp, by simp⟩) (hn _ q)
      · exact q
      · exfalso
        rw [List.getElem?_append_right (by omega)] at h1
        obtain ⟨k, hk⟩ : ∃ k, i - x.length = k + 1 := ⟨i - x.length - 1, by omega⟩
        rw [hk, List.getElem?_cons_succ] at h1
        exact h (List.mem_of_getElem? h1)
    rw [this]
theorem rstrip1 (a : List Nat) (c : Nat) : (Txt.rstripChars ⟨a.toArray⟩ ⟨[c].toArray⟩).cps.toList = (a.reverse.dropWhile fun x => x == c).reverse := by
  unfold Txt.rstripChars Txt.stripBy
  have hg : ∀ x : Nat, ([c].toArray).contains x = (x == c) := fun x => by
    by_cases h : x = c
    · subst h; simp
    · rw [beq_eq_false_iff_ne.mpr h]; simpa using h
  have hlo : stripLo ([c].toArray).contains false ⟨a.toArray⟩ = 0 := rfl
  have key : (strSub ⟨a.toArray⟩ 0 (stripHi ([c].toArray).contains true ⟨a.toArray⟩ 0)).cps.toList = (a.reverse.dropWhile fun x => x == c).reverse := by
    rw [strSub_toList]
    unfold stripHi
    simp only [if_true, List.drop_zero, Nat.sub_zero]
    show a.take (a.length - (a.reverse.takeWhile ([c].toArray).contains).length) = _
    have e : ([c].toArray).contains = fun x => x == c := funext hg
    rw [e]
    have h1 := List.takeWhile_append_dropWhile (p := fun x => x == c) (l := a.reverse)
    have h2 : a = (a.reverse.dropWhile fun x => x == c).reverse ++ (a.reverse.takeWhile fun x => x == c).reverse := by
      rw [← List.reverse_append, h1, List.reverse_reverse]
    have h3 : a.length - (a.reverse.takeWhile fun x => x == c).length = (a.reverse.dropWhile fun x => x == c).reverse.length := by
      have := congrArg List.length h2
      rw [List.length_append, List.length_reverse, List.length_reverse] at this
      rw [List.length_reverse]
      omega
    rw [h3]
    have h4 : ∀ u v : List Nat, a = u ++ v → a.take u.length = u := fun u v e => by rw [e, List.take_left' rfl]
    exact h4 _ _ h2
  show (if stripSame ([c].toArray).contains false true ⟨a.toArray⟩ = true then (PySem.Str.mk a.toArray) else stripped ([c].toArray).contains false true ⟨a.toArray⟩).cps.toList = _
  split
  · rename_i hs
    rw [← key]
    unfold stripSame at hs
    rw [hlo] at hs
    simp only [Bool.and_eq_true, beq_iff_eq] at hs
    rw [hs.2, strSub_toList]
    show a = (a.drop 0).take (a.length - 0)
    simp
  · exact key
theorem occ_none1 {a : List Nat} {c lo hi lim : Nat} (hl : 1 ≤ lim) (h : ∀ i, lo ≤ i → i < hi → a[i]? ≠ some c) : occurrences ⟨a.toArray⟩ ⟨[c].toArray⟩ lo hi lim = [] := by
  rw [occ_eq]
  rcases occ_first ⟨a.toArray⟩ ⟨[c].toArray⟩ hi lim hl (List.range' lo (hi + 1 - lo)) lo (fun i hi => by have := List.mem_range'_1.mp hi; omega) with ⟨h0, _⟩ | ⟨pre, b, post, e, h0, hb, hn⟩
  · rw [h0]
  · exfalso
    have h1 := (sub1 a c b hi).mp hb
    have hs : b ∈ List.range' lo (hi + 1 - lo) := by rw [e]; simp
    have := List.mem_range'_1.mp hs
    exact h b this.1 h1.1 h1.2
theorem occ_some1 {a : List Nat} {c lo hi lim i : Nat} (hl : 1 ≤ lim) (h1 : lo ≤ i) (h2 : i < hi) (h3 : a[i]? = some c) (h : ∀ k, lo ≤ k → k < i → a[k]? ≠ some c) : ∃ r, occurrences ⟨a.toArray⟩ ⟨[c].toArray⟩ lo hi lim = i :: r := by
  rw [occ_eq]
  rcases occ_first ⟨a.toArray⟩ ⟨[c].toArray⟩ hi lim hl (List.range' lo (hi + 1 - lo)) lo (fun i hi => by have := List.mem_range'_1.mp hi; omega) with ⟨h0, hn⟩ | ⟨pre, b, post, e, h0, hb, hn⟩
  · exact absurd ((sub1 a c i hi).mpr ⟨h2, h3⟩) (hn i (by rw [List.mem_range'_1]; omega))
  · have hs := range'_split_from e
    have hb' := (sub1 a c b hi).mp hb
    have : b = i := by
      rcases Nat.lt_trichotomy b i with q | q | q
      · exact absurd hb'.2 (h b hs.1 q)
      · exact q
      · exact absurd ((sub1 a c i hi).mpr ⟨h2, h3⟩) (hn i (hs.2 i h1 q))
    subst this
    generalize (forIn (List.range' lo (hi + 1 - lo)) ((#[] : Array Nat), lo) (occBody ⟨a.toArray⟩ ⟨[c].toArray⟩ hi lim)).run.fst = arr at h0
    have h1 : arr.toList[0]? = some b := by simpa using h0
    cases hL : arr.toList with
    | nil => rw [hL] at h1; cases h1
    | cons x t => rw [hL] at h1; simp at h1; rw [h1]; exact ⟨t, rfl⟩
theorem noOcc1 (a : List Nat) (c : Nat) : (occurrences ⟨a.toArray⟩ ⟨[c].toArray⟩ 0 a.length (a.length + 1)).isEmpty = !decide (c ∈ a) := by
  by_cases h : c ∈ a
  · obtain ⟨j, hj⟩ := List.getElem?_of_mem h
    rw [decide_eq_true h]
    have hex : ∃ i : Nat, a[i]? = some c ∧ ∀ k : Nat, k < i → a[k]? ≠ some c := by
      clear h
      induction j using Nat.strongRecOn with
      | _ j ih =>
        by_cases q : ∃ k, k < j ∧ a[k]? = some c
        · obtain ⟨k, q1, q2⟩ := q
          exact ih k q1 q2
        · exact ⟨j, hj, fun k hk e => q ⟨k, hk, e⟩⟩
    obtain ⟨i, h1, h2⟩ := hex
    obtain ⟨r, e⟩ := occ_some1 (a := a) (c := c) (lo := 0) (hi := a.length) (lim := a.length + 1) (by omega) (Nat.zero_le i) (List.getElem?_eq_some_iff.mp h1).1 h1 fun k _ => h2 k
    rw [e]; rfl
  · rw [decide_eq_false h, occ_none1 (by omega) (fun i _ _ e => h (List.mem_of_getElem? e) : ∀ i, 0 ≤ i → i < a.length → a[i]? ≠ some c)]
    rfl
end Mine
end P1x
section P2x
open PySem PySem.StrLaws PySem.Builtin PySem.Builtin.Str
namespace Mine
noncomputable def firstAt (c : Nat) : List Nat → Option Nat
  | [] => none
  | x :: r => if x = c then some 0 else (firstAt c r).map (· + 1)
theorem firstAt_none {c : Nat} : ∀ {l : List Nat}, firstAt c l = none → ∀ k : Nat, l[k]? ≠ some c
  | [], _, k, e => by simp at e
  | x :: r, h, k, e => by
    unfold firstAt at h
    split at h
    · cases h
    · rename_i hx
      have h' : firstAt c r = none := by cases q : firstAt c r <;> rw [q] at h <;> simp at h ⊢
      cases k with
      | zero => simp at e; exact hx e
      | succ k => exact firstAt_none h' k (by simpa using e)
theorem firstAt_some {c : Nat} : ∀ {l : List Nat} {m : Nat}, firstAt c l = some m → l[m]? = some c ∧ ∀ k : Nat, k < m → l[k]? ≠ some c
  | [], _, h => by cases h
  | x :: r, m, h => by
    unfold firstAt at h
    split at h
    · rename_i hx
      cases h
      exact ⟨by simp [hx], fun k hk => by omega⟩
    · rename_i hx
      obtain ⟨m', h', rfl⟩ := Option.map_eq_some_iff.mp h
      obtain ⟨a, b⟩ := firstAt_some h'
      refine ⟨by simpa using a, fun k hk e => ?_⟩
      cases k with
      | zero => simp at e; exact hx e
      | succ k => exact b k (by omega) (by simpa using e)
section
variable {pat u : List Nat} {p : Nat}
theorem cut_get {α : Type} (l : List α) (a b k : Nat) : (cut l a b)[k]? = if k < b - a then l[a + k]? else none := by
  unfold cut
  rw [List.getElem?_take]
  split <;> simp [List.getElem?_drop]
theorem find1 (H : At pat p u) {c a b : Nat} (ha : a ≤ 100000) (hb : b ≤ 100000) (hab : b ≤ u.length) : opF .find4 [.str pat, .str [c], P p a, P p b] = some (.val (match firstAt c (cut u a b) with | some m => P p (a + m) | none => .int (-1))) := by
  have hl := H.len
  have hs := H.small
  show (if small ((p + a : Nat) : Int) = true ∧ small ((p + b : Nat) : Int) = true then some (R.val (.int (match occurrences ⟨pat.toArray⟩ ⟨[c].toArray⟩ (fromIndex pat.length ((p + a : Nat) : Int)) (min (fromIndex pat.length ((p + b : Nat) : Int)) pat.length) 1 with | k :: _ => (k : Int) | [] => -1))) else Option.none) = _
  rw [if_pos ⟨H.sm ha, H.sm hb⟩]
  have f : ∀ k : Nat, fromIndex pat.length (k : Int) = k := fun k => by
    unfold fromIndex
    rw [if_neg (Int.not_lt.mpr (Int.natCast_nonneg k))]
    rfl
  have hpb : p + b ≤ pat.length := hl ▸ Nat.add_le_add_left hab p
  rw [f, f, Nat.min_eq_left hpb]
  cases h : firstAt c (cut u a b) with
  | none =>
    have hn := firstAt_none h
    rw [occ_none1 (Nat.le_refl 1)]
    intro i h1 h2 h3
    have := hn (i - p - a)
    clear hl hs ha hb hab hpb hn
    rw [cut_get, if_pos (by omega)] at this
    have e : a + (i - p - a) = i - p := by clear this; omega
    rw [e, ← H.get, show p + (i - p) = i by clear this h2 e; omega] at this
    exact this h3
  | some m =>
    obtain ⟨h1, h2⟩ := firstAt_some h
    rw [cut_get] at h1
    split at h1
    · rename_i hm
      obtain ⟨r, e⟩ := occ_some1 (a := pat) (c := c) (lo := p + a) (hi := p + b) (lim := 1) (i := p + (a + m)) (Nat.le_refl 1) (Nat.add_le_add_left (Nat.le_add_right a m) p) (by clear ha hb hab hl hs hpb h1 h2; omega) (by rw [H.get]; exact h1) (fun k hk1 hk2 e => by
        have := h2 (k - p - a) (by clear ha hb hab hl hs hpb h1 h2 hm; omega)
        rw [cut_get, if_pos (by clear ha hb hab hl hs hpb h1 h2 this; omega)] at this
        have e' : a + (k - p - a) = k - p := by clear ha hb hab hl hs hpb h1 h2 this hm hk2; omega
        rw [e', ← H.get, show p + (k - p) = k by clear ha hb hab hl hs hpb h1 h2 this hm hk2 e'; omega] at this
        exact this e)
      rw [e]
      rfl
    · cases h1
end
end Mine
end P2x
section P3x
open PySem PySem.StrLaws PySem.Builtin PySem.Builtin.Str
namespace Mine
noncomputable abbrev Res := Option (List Slot × Out)
section
variable {cf : Nat → List D → Option D} {ρ ρ₁ ρ' : List Slot} {o : Out} {res : Res} {a b : S} {x c : X} {d : D} {i j k : Nat}
theorem R_skip : ex cf .skip ρ = some (ρ, .next) := exq_skip _
theorem R_brk : ex cf .brk ρ = some (ρ, .brk) := exq_brk _
theorem R_cont : ex cf .cont ρ = some (ρ, .cont) := exq_cont _
noncomputable def after (cf : Nat → List D → Option D) (b : S) (ρ : List Slot) : Out → Res
  | .next => ex cf b ρ
  | o => some (ρ, o)
theorem R_seq (h : ex cf a ρ = some (ρ₁, o)) (h2 : after cf b ρ₁ o = res) : ex cf (.seq a b) ρ = res := by
  rw [ex_seq, h]
  cases o <;> exact h2
theorem R_next (h : ex cf b ρ = res) : after cf b ρ .next = res := h
theorem R_out_brk : after cf b ρ .brk = some (ρ, .brk) := rfl
theorem R_out_cont : after cf b ρ .cont = some (ρ, .cont) := rfl
theorem R_out_ret : after cf b ρ (.ret d) = some (ρ, .ret d) := rfl
theorem R_assign (h : ev1 cf x ρ = some d) (h2 : ρ.set i (.val d) = ρ') : ex cf (.assign i x) ρ = some (ρ', .next) := by
  rw [exq_assign]; rw [h, ← h2]; rfl
theorem R_assignO (h0 : noApp i ρ = true) {l : List D} (h : ev cf x ρ = some [.own l]) (h2 : ρ.set i (.own l) = ρ') : ex cf (.assignO i x) ρ = some (ρ', .next) := by
  rw [exq_assignO]; rw [if_pos h0, h, ← h2]
theorem R_assign2 {d1 d2 : D} (h : ev1 cf x ρ = some (.tup [d1, d2])) (h2 : (ρ.set i (.val d1)).set j (.val d2) = ρ') : ex cf (.assign2 i j x) ρ = some (ρ', .next) := by
  rw [exq_assign2]; rw [h, ← h2]
theorem R_assign3 {d1 d2 d3 : D} (h : ev1 cf x ρ = some (.tup [d1, d2, d3])) (h2 : ((ρ.set i (.val d1)).set j (.val d2)).set k (.val d3) = ρ') : ex cf (.assign3 i j k x) ρ = some (ρ', .next) := by
  rw [exq_assign3]; rw [h, ← h2]
theorem R_alias {l : List D} (h : ownAt ρ j = some l) (h2 : ρ.set i (.app j) = ρ') : ex cf (.alias i j) ρ = some (ρ', .next) := by
  rw [exq_alias]; rw [h, ← h2]
theorem R_append {l : List D} (h : ev1 cf x ρ = some d) (h1 : ownAt ρ i = some l) (hl : l.length < lim) (h2 : ρ.set i (.own (l ++ [d])) = ρ') : ex cf (.append i x) ρ = some (ρ', .next) := by
  rw [exq_append]; rw [h, h1]; simp only [if_pos hl, h2]
theorem R_appendVia {l : List D} (h0 : ρ[i]? = some (.app j)) (h : ev1 cf x ρ = some d) (h1 : ownAt ρ j = some l) (hl : l.length < lim) (h2 : ρ.set j (.own (l ++ [d])) = ρ') : ex cf (.appendVia i j x) ρ = some (ρ', .next) := by
  rw [exq_appendVia]; rw [h0, h, h1]; simp only [if_true, if_pos hl, h2]
theorem R_aug {s t : List Nat} (h0 : ρ[i]? = some (.val (.str s))) (h : ev1 cf x ρ = some (.str t)) (hl : s.length + t.length ≤ lim) (h2 : ρ.set i (.val (.str (s ++ t))) = ρ') : ex cf (.aug i x) ρ = some (ρ', .next) := by
  rw [exq_aug]; rw [h0, h]; simp only [if_pos hl, h2]
theorem R_setItem {l : List D} {n : Int} {p : Nat} (h : ev1 cf x ρ = some d) (hk : ev1 cf c ρ = some (.int n)) (h1 : ownAt ρ i = some l) (hs : small n = true) (hp : place n l.length = some p) (h2 : ρ.set i (.own (l.set p d)) = ρ') : ex cf (.setItem i c x) ρ = some (ρ', .next) := by
  rw [exq_setItem]; rw [h, hk, h1]; simp only [if_pos hs, hp, h2]
theorem R_augItem {l : List D} {n : Int} {p : Nat} {y z : List Nat} (hk : ev1 cf c ρ = some (.int n)) (h : ev1 cf x ρ = some (.str y)) (h1 : ownAt ρ i = some l) (hs : small n = true) (hp : place n l.length = some p) (hz : l[p]? = some (.str z)) (hl : z.length + y.length ≤ lim) (h2 : ρ.set i (.own (l.set p (.str (z ++ y)))) = ρ') : ex cf (.augItem i c x) ρ = some (ρ', .next) := by
  rw [exq_augItem]; rw [h, hk, h1]; simp only [if_pos hs, hp, hz, if_pos hl, h2]
theorem R_delItem {l : List D} {n : Int} (hk : ev1 cf c ρ = some (.int n)) (h1 : ownAt ρ i = some l) (hn : 0 ≤ n ∧ n < l.length) (h2 : ρ.set i (.own (l.eraseIdx n.toNat)) = ρ') : ex cf (.delItem i c) ρ = some (ρ', .next) := by
  rw [exq_delItem]; rw [hk, h1]; simp only [if_pos hn, h2]
theorem R_fz {l : List D} (h : ownAt ρ i = some l) (h2 : ρ.set i (.val (.list l)) = ρ') : ex cf (.fz i) ρ = some (ρ', .next) := by rw [ex_fz, h, ← h2]
theorem R_fz_no (h : ownAt ρ i = none) : ex cf (.fz i) ρ = some (ρ, .next) := by rw [ex_fz, h]
noncomputable def branch (cf : Nat → List D → Option D) (a b : S) (ρ : List Slot) : Bool → Res
  | true => ex cf a ρ
  | false => ex cf b ρ
theorem R_ite {t : Bool} (h : evT cf c ρ = some t) (h2 : branch cf a b ρ t = res) : ex cf (.ite c a b) ρ = res := by
  rw [exq_ite]; rw [h]; cases t <;> exact h2
theorem R_tt (h : ex cf a ρ = res) : branch cf a b ρ true = res := h
theorem R_ff (h : ex cf b ρ = res) : branch cf a b ρ false = res := h
theorem R_ret (h : ev1 cf x ρ = some d) : ex cf (.ret x) ρ = some (ρ, .ret d) := by rw [exq_ret]; rw [h]; rfl
theorem R_try (h : ex cf b ρ = res) : ex cf (.try_ b) ρ = res := by rw [exq_try_]; exact h
noncomputable def wOut (cf : Nat → List D → Option D) (c : X) (b : S) (n : Nat) (ρ : List Slot) : Out → Res
  | .next => whileGo (evT cf c) (ex cf b) n ρ
  | .cont => whileGo (evT cf c) (ex cf b) n ρ
  | .brk => some (ρ, .next)
  | .ret d => some (ρ, .ret d)
noncomputable def wTurn (cf : Nat → List D → Option D) (c : X) (b : S) (n : Nat) (ρ : List Slot) : Bool → Res
  | false => some (ρ, .next)
  | true => match ex cf b ρ with
    | some (ρ', o) => wOut cf c b n ρ' o
    | none => none
theorem R_whileGo {n : Nat} {t : Bool} (h : evT cf c ρ = some t) (h2 : wTurn cf c b n ρ t = res) : whileGo (evT cf c) (ex cf b) (n + 1) ρ = res := by
  unfold whileGo
  rw [h]
  cases t with
  | false => exact h2
  | true =>
    unfold wTurn at h2
    rw [← h2]
    simp only
    cases ex cf b ρ with
    | none => rfl
    | some y =>
      obtain ⟨ρ', o⟩ := y
      cases o <;> rfl
theorem R_while (h : whileGo (evT cf c) (ex cf b) (99999 + 1) ρ = res) : ex cf (.while c b) ρ = res := by rw [exq_while]; exact h
theorem R_wDone {n : Nat} : wTurn cf c b n ρ false = some (ρ, .next) := rfl
theorem R_wGo {n : Nat} (h : ex cf b ρ = some (ρ₁, o)) (h2 : wOut cf c b n ρ₁ o = res) : wTurn cf c b n ρ true = res := by
  unfold wTurn; rw [h]; exact h2
theorem R_wNext {n : Nat} (h : whileGo (evT cf c) (ex cf b) n ρ = res) : wOut cf c b n ρ .next = res := h
theorem R_wCont {n : Nat} (h : whileGo (evT cf c) (ex cf b) n ρ = res) : wOut cf c b n ρ .cont = res := h
theorem R_wBrk {n : Nat} : wOut cf c b n ρ .brk = some (ρ, .next) := rfl
theorem R_wRet {n : Nat} : wOut cf c b n ρ (.ret d) = some (ρ, .ret d) := rfl
noncomputable def fOut (cf : Nat → List D → Option D) (st : D → List Slot → Option (List Slot)) (b : S) (r : List D) (ρ : List Slot) : Out → Res
  | .next => forGo st (ex cf b) r ρ
  | .cont => forGo st (ex cf b) r ρ
  | .brk => some (ρ, .next)
  | .ret d => some (ρ, .ret d)
theorem R_forNil {st : D → List Slot → Option (List Slot)} : forGo st (ex cf b) [] ρ = some (ρ, .next) := rfl
theorem R_forCons {st : D → List Slot → Option (List Slot)} {r : List D} {ρ₂ : List Slot} (h1 : st d ρ = some ρ₁) (h : ex cf b ρ₁ = some (ρ₂, o)) (h2 : fOut cf st b r ρ₂ o = res) : forGo st (ex cf b) (d :: r) ρ = res := by
  unfold forGo
  rw [h1]
  simp only [h]
  cases o <;> exact h2
theorem R_fNext {st : D → List Slot → Option (List Slot)} {r : List D} (h : forGo st (ex cf b) r ρ = res) : fOut cf st b r ρ .next = res := h
theorem R_fCont {st : D → List Slot → Option (List Slot)} {r : List D} (h : forGo st (ex cf b) r ρ = res) : fOut cf st b r ρ .cont = res := h
theorem R_fBrk {st : D → List Slot → Option (List Slot)} {r : List D} : fOut cf st b r ρ .brk = some (ρ, .next) := rfl
theorem R_fRet {st : D → List Slot → Option (List Slot)} {r : List D} : fOut cf st b r ρ (.ret d) = some (ρ, .ret d) := rfl
theorem R_for {l : List D} (h : evI cf x ρ = some l) (h2 : forGo (put1 i) (ex cf b) l ρ = res) : ex cf (.forE i x b) ρ = res := by rw [exq_forE]; rw [h]; exact h2
end
noncomputable def one (o : Option (List R)) : Option D := match o with
  | some [r] => r.fz
  | _ => none
noncomputable def theItems (o : Option (List R)) : Option (List D) := match o with
  | some [.val (.list l)] => some l
  | _ => none
section
variable {cf : Nat → List D → Option D} {ρ : List Slot} {x : X} {r : R}
theorem ev1_eq : ev1 cf x ρ = one (ev cf x ρ) := by
  unfold ev1
  generalize ev cf x ρ = o
  match o with
  | none => rfl
  | some [] => rfl
  | some [_] => rfl
  | some (_ :: _ :: _) => rfl
theorem evT_eq : evT cf x ρ = truthR (ev cf x ρ) := by
  unfold evT
  generalize ev cf x ρ = o
  match o with
  | none => rfl
  | some _ => rfl
theorem evI_eq : evI cf x ρ = theItems (ev cf x ρ) := by
  unfold evI
  generalize ev cf x ρ = o
  match o with
  | none => rfl
  | some [] => rfl
  | some [.val (.list _)] => rfl
  | some [.val .none] => rfl
  | some [.val (.bool _)] => rfl
  | some [.val (.int _)] => rfl
  | some [.val (.str _)] => rfl
  | some [.val (.tup _)] => rfl
  | some [.val (.tok _)] => rfl
  | some [.val (.ty _)] => rfl
  | some [.own _] => rfl
  | some [.bor _] => rfl
  | some (_ :: _ :: _) => rfl
theorem one_some : one (some [r]) = r.fz := rfl
theorem theItems_some {l : List D} : theItems (some [.val (.list l)]) = some l := rfl
theorem truthR_some : truthR (some [r]) = r.ds.truth := rfl
end
noncomputable def appOK (i : Nat) (s : Slot) : Bool := match s with | .app j => j != i | _ => true
theorem noApp_eq (i : Nat) (ρ : List Slot) : noApp i ρ = ρ.all (appOK i) := rfl
theorem appOK_val {i : Nat} {d : D} : appOK i (.val d) = true := rfl
theorem appOK_own {i : Nat} {d : List D} : appOK i (.own d) = true := rfl
theorem appOK_unset {i : Nat} : appOK i .unset = true := rfl
theorem appOK_app {i j : Nat} : appOK i (.app j) = (j != i) := rfl
theorem eq_str (a b : List Nat) : opF .eq [.str a, .str b] = some (.val (.bool (decide (a = b)))) := rfl
theorem ne_str (a b : List Nat) : opF .ne [.str a, .str b] = some (.val (.bool (!decide (a = b)))) := rfl
end Mine
end P3x
section P4x
open PySem PySem.StrLaws PySem.Builtin PySem.Builtin.Str
namespace Mine
theorem turnD_tt {r : R} : turnD (some [.val (.bool true)]) (some [r]) = r.fz.map some := rfl
theorem o_len {l : List D} : opF .len [.list l] = some (.val (.int (l.length : Int))) := rfl
theorem o_sub {a b : Int} : opF .sub [.int a, .int b] = some (.val (.int (a - b))) := rfl
theorem o_neg {a : Int} : opF .neg [.int a] = some (.val (.int (-a))) := rfl
theorem P_add1 {p k : Nat} : opF .add [P p k, .int 1] = some (.val (P p (k + 1))) := P_add k 1
theorem P_add2 {p k : Nat} : opF .add [P p k, .int 2] = some (.val (P p (k + 2))) := P_add k 2
theorem P_add3 {p k : Nat} : opF .add [P p k, .int 3] = some (.val (P p (k + 3))) := P_add k 3
theorem notin_str (c : Nat) (b : List Nat) : opF .notin [.str [c], .str b] = some (.val (.bool (!decide (c ∈ b)))) := by
  show some (R.val (.bool (!Txt.contains ⟨b.toArray⟩ ⟨[c].toArray⟩))) = _
  rw [contains1]
theorem in_str1 (c : Nat) (b : List Nat) : opF .in_ [.str [c], .str b] = some (.val (.bool (decide (c ∈ b)))) := by
  show some (R.val (.bool (Txt.contains ⟨b.toArray⟩ ⟨[c].toArray⟩))) = _
  rw [contains1]
theorem replace1 {a : List Nat} {c : Nat} {d : List Nat} (h : decide (c ∈ a) = false) : opF .replace [.str a, .str [c], .str d] = some (.val (.str a)) := by
  show (if (occurrences ⟨a.toArray⟩ ⟨[c].toArray⟩ 0 a.length (a.length + 1)).isEmpty = true then some (R.val (.str a)) else Option.none) = _
  rw [noOcc1, h]; rfl
section
variable {pat u : List Nat} {p : Nat}
theorem find1' (H : At pat p u) {c a b : Nat} (ha : a ≤ 100000) (hb : b ≤ 100000) (hab : (u[b]?).isSome = true) : opF .find4 [.str pat, .str [c], P p a, P p b] = some (.val (match firstAt c (cut u a b) with | some m => P p (a + m) | none => .int (-1))) :=
  find1 H ha hb (by rw [some_lt, decide_eq_true_eq] at hab; omega)
end
set_option genInjectivity false in
structure Fx (pat : List Nat) (I : Nat → D) (n : D) (u : List Nat) : Prop where
  i : ∀ k, k ≤ 100000 → opF .index [.str pat, I k] = (u[k]?).map fun c => .val (.str [c])
  l : ∀ k, opF .lt [I k, n] = some (.val (.bool (u[k]?).isSome))
  g : ∀ k, opF .ge [I k, n] = some (.val (.bool (!(u[k]?).isSome)))
  s : ∀ a b, a ≤ 100000 → b ≤ 100000 → opF .slice [.str pat, I a, I b] = some (.val (.str (cut u a b)))
  f : ∀ c a b, a ≤ 100000 → b ≤ 100000 → (u[b]?).isSome = true → opF .find4 [.str pat, .str [c], I a, I b] = some (.val (match firstAt c (cut u a b) with | some m => I (a + m) | none => .int (-1)))
  a1 : ∀ k, opF .add [I k, .int 1] = some (.val (I (k + 1)))
  a2 : ∀ k, opF .add [I k, .int 2] = some (.val (I (k + 2)))
  a3 : ∀ k, opF .add [I k, .int 3] = some (.val (I (k + 3)))
  z : ∀ k, opF .lt [I k, .int 0] = some (.val (.bool false))
theorem At.fx {pat u : List Nat} {p : Nat} (H : At pat p u) : Fx pat (P p) (N pat) u := ⟨fun _ h => idx H h, fun _ => lt_N H, fun _ => ge_N H, fun _ _ h1 h2 => sl H h1 h2, fun _ _ _ h1 h2 h3 => find1' H h1 h2 h3, fun _ => P_add1, fun _ => P_add2, fun _ => P_add3, fun _ => lt_0⟩
section
variable {pat v : List Nat} {I : Nat → D} {n : D} {ρ : List Slot} {cf : Nat → List D → Option D} {q : D} {r : List D} {j7 j8 j9 j10 j11 j12 j13 : Slot}
end
end Mine
end P4x
section P5x
open PySem PySem.StrLaws PySem.Builtin PySem.Builtin.Str
namespace Mine
theorem C_call {fns : Nat → Option Fn} {n f : Nat} {args : List D} {fn : Fn} {ρ : List Slot} {d : D} (h1 : fns f = some fn) (h2 : bindD fn args = some ρ) (h3 : ∃ ρ', ex (callF fns n) fn.body ρ = some (ρ', .ret d)) : callF fns (n + 1) f args = some d := by
  obtain ⟨ρ', h3⟩ := h3
  unfold callF
  rw [h1]
  simp only [h2, h3]
noncomputable def esc (c : Nat) : List Nat := if special.contains c then [92, c] else [c]
theorem At.skip {pat u : List Nat} {p k : Nat} (H : At pat p u) (h : k ≤ u.length) : At pat (p + k) (u.drop k) := by
  refine ⟨?_, ?_, H.small⟩
  · rw [← List.drop_drop, H.drop]
  · have := H.len; omega
theorem P_skip {p k : Nat} : P (p + k) 0 = P p k := by unfold P; rfl
end Mine
end P5x
section P6x
open PySem PySem.StrLaws PySem.Builtin PySem.Builtin.Str
namespace Mine
theorem o_startswith {a : List Nat} {c : Nat} : opF .startswith [.str a, .str [c]] = some (.val (.bool (decide (a.head? = some c)))) := by
  show some (R.val (.bool (Txt.startswith ⟨a.toArray⟩ ⟨[c].toArray⟩))) = _
  rw [startswith1]
theorem o_endswith {a : List Nat} {c : Nat} : opF .endswith [.str a, .str [c]] = some (.val (.bool (decide (a.getLast? = some c)))) := by
  show some (R.val (.bool (Txt.endswith ⟨a.toArray⟩ ⟨[c].toArray⟩))) = _
  rw [endswith1]
theorem o_addstr {a b : List Nat} (h : a.length + b.length ≤ lim) : opF .add [.str a, .str b] = some (.val (.str (a ++ b))) := by
  show (if a.length + b.length ≤ lim then some (R.val (.str (a ++ b))) else none) = _
  rw [if_pos h]
theorem le_lim {n : Nat} (h : n ≤ 1000) : (n ≤ lim) = True := eq_true (Nat.le_trans h (by decide))
theorem lt_lim {n : Nat} (h : n ≤ 1000) : (n < lim) = True := eq_true (Nat.lt_of_le_of_lt h (by decide))
theorem o_lens {l : List Nat} : opF .len [.str l] = some (.val (.int (l.length : Int))) := rfl
theorem o_addi {a b : Int} : opF .add [.int a, .int b] = some (.val (.int (a + b))) := rfl
section
variable {fns : Nat → Option Fn}
theorem fspath_ok (h2 : fns 2 = some fn_fspath) (m : Nat) (l : List Nat) : callF fns (m + 1) 2 [.str l] = some (.str l) := by
  refine C_call h2 (ρ := [.val (.str l), .unset, .unset, .unset]) rfl ?_
  show ∃ ρ', ex (callF fns m) s_fspath _ = _
  unfold s_fspath
  exact ⟨_, R_seq (R_assign (d := .ty "str") rfl rfl) (R_next (R_seq (R_ite (t := true) rfl (R_tt (R_seq (R_ret (d := .str l) rfl) R_out_ret))) R_out_ret))⟩
theorem get_sep_ok (h3 : fns 3 = some fn_get_sep) (m : Nat) (l : List Nat) : callF fns (m + 1) 3 [.str l] = some (.str [47]) := by
  refine C_call h3 (ρ := [.val (.str l)]) rfl ?_
  show ∃ ρ', ex (callF fns m) s_get_sep _ = _
  unfold s_get_sep
  exact ⟨_, R_seq (R_ite (t := false) rfl (R_ff (R_seq (R_ret (d := .str [47]) rfl) R_out_ret))) R_out_ret⟩
end
noncomputable def join1 (p b : List Nat) : List Nat :=
  if b.head? = some 47 ∨ p = [] then b else if p.getLast? = some 47 then p ++ b else p ++ 47 :: b
noncomputable def joinP (p : List Nat) (bs : List (List Nat)) : List Nat := bs.foldl join1 p
noncomputable def jBody : S := match s_join with
  | .seq _ (.seq _ (.seq _ (.seq (.try_ (.seq (.forE _ _ b) _)) _))) => b
  | _ => .skip
section
variable {cf : Nat → List D → Option D}
theorem join_turn (hf : ∀ l, cf 2 [.str l] = some (.str l)) {p b : List Nat} {a' ps : D} (hl : p.length + b.length + 1 ≤ lim) :
    ex cf jBody [.val a', .val ps, .val (.str [47]), .val (.str p), .val (.str b)] = some ([.val a', .val ps, .val (.str [47]), .val (.str (join1 p b)), .val (.str b)], .next) := by
  have hb := hf b
  have l1 : p.length + b.length ≤ lim := by omega
  have l2 : p.length + ([47] ++ b).length ≤ lim := by simp; omega
  have l3 := o_addstr (a := [47]) (b := b) (by simp; omega)
  unfold jBody s_join join1
  by_cases h1 : b.head? = some 47
  · simp only [h1, true_or, if_true]
    (repeat' (first | with_reducible (first | exact R_skip | exact R_brk | exact R_cont | apply R_seq | exact R_out_brk | exact R_out_cont | exact R_out_ret | refine R_next ?_ | apply R_ite | refine R_tt ?_ | refine R_ff ?_ | apply R_while | apply R_whileGo | exact R_wDone | apply R_wGo | refine R_wNext ?_ | refine R_wCont ?_ | exact R_wBrk | exact R_wRet | apply R_for | exact R_forNil | apply R_forCons | refine R_fNext ?_ | refine R_fCont ?_ | exact R_fBrk | exact R_fRet | apply R_assign | apply R_assign2 | apply R_appendVia | apply R_append | apply R_alias | apply R_ret | apply R_assignO | apply R_setItem | apply R_delItem | apply R_augItem | apply R_fz | apply R_aug) | (((try simp (config := {failIfUnchanged := false}) only [ev1_eq, evT_eq, evI_eq, one_some, theItems_some, truthR_some, evq_const, evq_var, evq_op, evq_nil, evq_cons, evq_star, evq_and, evq_or, evq_not, evq_ite, evq_call, evq_tup, evq_list, evq_comp, evq_comp2, evq_comp3, evq_mapF, evq_seqI, evq_rangeI, evq_enumI, evq_setI, fzAll, ownAt, Mine.R.ds, Mine.R.fz, Mine.D.truth, List.map_cons, List.map_nil, List.getElem?_cons_zero, List.getElem?_cons_succ, List.getElem?_nil, Option.map_some, Option.map_none, List.set_cons_zero, List.set_cons_succ, List.getElem?_set, List.length_set, Nat.reduceLT, eq_str, ne_str, notin_str, in_str1, replace1, List.cons.injEq, and_true, and_false, true_and, false_and, Nat.reduceEqDiff, decide_true, decide_false, reduceCtorEq, Bool.not_true, Bool.not_false, Nat.reduceAdd, List.isEmpty_cons, List.isEmpty_nil, Nat.reduceLeDiff, Nat.zero_le, Option.isSome_some, Option.isSome_none, noApp_eq, List.all_cons, List.all_nil, appOK_val, appOK_own, appOK_unset, appOK_app, Bool.and_true, Bool.true_and, reduceIte, List.mem_cons, List.not_mem_nil, or_false, false_or, or_true, true_or, itemsOf, Option.bind_some, compGo, turnD_tt, o_len, o_lens, o_sub, o_neg, o_addi, o_startswith, o_endswith, le_lim, lt_lim, List.length_cons, List.length_nil, Nat.zero_add, *]) <;> rfl)) | (show (_ : Nat) < lim; decide) | decide))
  · by_cases h2 : p = []
    · subst h2
      simp only [h1, or_true, if_true]
      (repeat' (first | with_reducible (first | exact R_skip | exact R_brk | exact R_cont | apply R_seq | exact R_out_brk | exact R_out_cont | exact R_out_ret | refine R_next ?_ | apply R_ite | refine R_tt ?_ | refine R_ff ?_ | apply R_while | apply R_whileGo | exact R_wDone | apply R_wGo | refine R_wNext ?_ | refine R_wCont ?_ | exact R_wBrk | exact R_wRet | apply R_for | exact R_forNil | apply R_forCons | refine R_fNext ?_ | refine R_fCont ?_ | exact R_fBrk | exact R_fRet | apply R_assign | apply R_assign2 | apply R_appendVia | apply R_append | apply R_alias | apply R_ret | apply R_assignO | apply R_setItem | apply R_delItem | apply R_augItem | apply R_fz | apply R_aug) | (((try simp (config := {failIfUnchanged := false}) only [ev1_eq, evT_eq, evI_eq, one_some, theItems_some, truthR_some, evq_const, evq_var, evq_op, evq_nil, evq_cons, evq_star, evq_and, evq_or, evq_not, evq_ite, evq_call, evq_tup, evq_list, evq_comp, evq_comp2, evq_comp3, evq_mapF, evq_seqI, evq_rangeI, evq_enumI, evq_setI, fzAll, ownAt, Mine.R.ds, Mine.R.fz, Mine.D.truth, List.map_cons, List.map_nil, List.getElem?_cons_zero, List.getElem?_cons_succ, List.getElem?_nil, Option.map_some, Option.map_none, List.set_cons_zero, List.set_cons_succ, List.getElem?_set, List.length_set, Nat.reduceLT, eq_str, ne_str, notin_str, in_str1, replace1, List.cons.injEq, and_true, and_false, true_and, false_and, Nat.reduceEqDiff, decide_true, decide_false, reduceCtorEq, Bool.not_true, Bool.not_false, Nat.reduceAdd, List.isEmpty_cons, List.isEmpty_nil, Nat.reduceLeDiff, Nat.zero_le, Option.isSome_some, Option.isSome_none, noApp_eq, List.all_cons, List.all_nil, appOK_val, appOK_own, appOK_unset, appOK_app, Bool.and_true, Bool.true_and, reduceIte, List.mem_cons, List.not_mem_nil, or_false, false_or, or_true, true_or, itemsOf, Option.bind_some, compGo, turnD_tt, o_len, o_lens, o_sub, o_neg, o_addi, o_startswith, o_endswith, le_lim, lt_lim, List.length_cons, List.length_nil, Nat.zero_add, *]) <;> rfl)) | (show (_ : Nat) < lim; decide) | decide))
    · have h2' : p.isEmpty = false := by cases p <;> first | rfl | exact absurd rfl h2
      by_cases h3 : p.getLast? = some 47
      · simp only [h1, h2, or_self, if_false, h3, if_true]
        (repeat' (first | with_reducible (first | exact R_skip | exact R_brk | exact R_cont | apply R_seq | exact R_out_brk | exact R_out_cont | exact R_out_ret | refine R_next ?_ | apply R_ite | refine R_tt ?_ | refine R_ff ?_ | apply R_while | apply R_whileGo | exact R_wDone | apply R_wGo | refine R_wNext ?_ | refine R_wCont ?_ | exact R_wBrk | exact R_wRet | apply R_for | exact R_forNil | apply R_forCons | refine R_fNext ?_ | refine R_fCont ?_ | exact R_fBrk | exact R_fRet | apply R_assign | apply R_assign2 | apply R_appendVia | apply R_append | apply R_alias | apply R_ret | apply R_assignO | apply R_setItem | apply R_delItem | apply R_augItem | apply R_fz | apply R_aug) | (((try simp (config := {failIfUnchanged := false}) only [ev1_eq, evT_eq, evI_eq, one_some, theItems_some, truthR_some, evq_const, evq_var, evq_op, evq_nil, evq_cons, evq_star, evq_and, evq_or, evq_not, evq_ite, evq_call, evq_tup, evq_list, evq_comp, evq_comp2, evq_comp3, evq_mapF, evq_seqI, evq_rangeI, evq_enumI, evq_setI, fzAll, ownAt, Mine.R.ds, Mine.R.fz, Mine.D.truth, List.map_cons, List.map_nil, List.getElem?_cons_zero, List.getElem?_cons_succ, List.getElem?_nil, Option.map_some, Option.map_none, List.set_cons_zero, List.set_cons_succ, List.getElem?_set, List.length_set, Nat.reduceLT, eq_str, ne_str, notin_str, in_str1, replace1, List.cons.injEq, and_true, and_false, true_and, false_and, Nat.reduceEqDiff, decide_true, decide_false, reduceCtorEq, Bool.not_true, Bool.not_false, Nat.reduceAdd, List.isEmpty_cons, List.isEmpty_nil, Nat.reduceLeDiff, Nat.zero_le, Option.isSome_some, Option.isSome_none, noApp_eq, List.all_cons, List.all_nil, appOK_val, appOK_own, appOK_unset, appOK_app, Bool.and_true, Bool.true_and, reduceIte, List.mem_cons, List.not_mem_nil, or_false, false_or, or_true, true_or, itemsOf, Option.bind_some, compGo, turnD_tt, o_len, o_lens, o_sub, o_neg, o_addi, o_startswith, o_endswith, le_lim, lt_lim, List.length_cons, List.length_nil, Nat.zero_add, *]) <;> rfl)) | (show (_ : Nat) < lim; decide) | decide))
      · simp only [h1, h2, or_self, if_false, h3]
        (repeat' (first | with_reducible (first | exact R_skip | exact R_brk | exact R_cont | apply R_seq | exact R_out_brk | exact R_out_cont | exact R_out_ret | refine R_next ?_ | apply R_ite | refine R_tt ?_ | refine R_ff ?_ | apply R_while | apply R_whileGo | exact R_wDone | apply R_wGo | refine R_wNext ?_ | refine R_wCont ?_ | exact R_wBrk | exact R_wRet | apply R_for | exact R_forNil | apply R_forCons | refine R_fNext ?_ | refine R_fCont ?_ | exact R_fBrk | exact R_fRet | apply R_assign | apply R_assign2 | apply R_appendVia | apply R_append | apply R_alias | apply R_ret | apply R_assignO | apply R_setItem | apply R_delItem | apply R_augItem | apply R_fz | apply R_aug) | (((try simp (config := {failIfUnchanged := false}) only [ev1_eq, evT_eq, evI_eq, one_some, theItems_some, truthR_some, evq_const, evq_var, evq_op, evq_nil, evq_cons, evq_star, evq_and, evq_or, evq_not, evq_ite, evq_call, evq_tup, evq_list, evq_comp, evq_comp2, evq_comp3, evq_mapF, evq_seqI, evq_rangeI, evq_enumI, evq_setI, fzAll, ownAt, Mine.R.ds, Mine.R.fz, Mine.D.truth, List.map_cons, List.map_nil, List.getElem?_cons_zero, List.getElem?_cons_succ, List.getElem?_nil, Option.map_some, Option.map_none, List.set_cons_zero, List.set_cons_succ, List.getElem?_set, List.length_set, Nat.reduceLT, eq_str, ne_str, notin_str, in_str1, replace1, List.cons.injEq, and_true, and_false, true_and, false_and, Nat.reduceEqDiff, decide_true, decide_false, reduceCtorEq, Bool.not_true, Bool.not_false, Nat.reduceAdd, List.isEmpty_cons, List.isEmpty_nil, Nat.reduceLeDiff, Nat.zero_le, Option.isSome_some, Option.isSome_none, noApp_eq, List.all_cons, List.all_nil, appOK_val, appOK_own, appOK_unset, appOK_app, Bool.and_true, Bool.true_and, reduceIte, List.mem_cons, List.not_mem_nil, or_false, false_or, or_true, true_or, itemsOf, Option.bind_some, compGo, turnD_tt, o_len, o_lens, o_sub, o_neg, o_addi, o_startswith, o_endswith, le_lim, lt_lim, List.length_cons, List.length_nil, Nat.zero_add, *]) <;> rfl)) | (show (_ : Nat) < lim; decide) | decide))
theorem join1_len (p b : List Nat) : (join1 p b).length ≤ p.length + b.length + 1 := by
  unfold join1
  split
  · omega
  · split <;> simp <;> omega
noncomputable def lenS (bs : List (List Nat)) : Nat := (bs.map fun b => b.length + 1).sum
theorem join_loop (hf : ∀ l, cf 2 [.str l] = some (.str l)) {a' ps : D} : ∀ (bs : List (List Nat)) (p : List Nat) (j4 : Slot), p.length + lenS bs ≤ lim →
    ∃ j, forGo (put1 4) (ex cf jBody) (bs.map .str) [.val a', .val ps, .val (.str [47]), .val (.str p), j4] = some ([.val a', .val ps, .val (.str [47]), .val (.str (joinP p bs)), j], .next)
  | [], p, j4, _ => ⟨j4, rfl⟩
  | b :: bs, p, j4, h => by
    have h' : p.length + (b.length + 1 + lenS bs) ≤ lim := by
      unfold lenS at h ⊢
      rw [List.map_cons, List.sum_cons] at h
      exact h
    have h2 := join1_len p b
    obtain ⟨j, hj⟩ := join_loop hf (a' := a') (ps := ps) bs (join1 p b) (.val (.str b)) (by omega)
    refine ⟨j, R_forCons (st := put1 4) (d := .str b) rfl (join_turn hf (p := p) (b := b) (by omega)) (R_fNext hj)⟩
end
section
variable {fns : Nat → Option Fn}
theorem join_ok (h2 : fns 2 = some fn_fspath) (h3 : fns 3 = some fn_get_sep) (h4 : fns 4 = some fn_join) (m : Nat) {a : List Nat} {bs : List (List Nat)} (h : a.length + lenS bs ≤ lim) (hn : bs.length < lim) :
    callF fns (m + 2) 4 (.str a :: bs.map .str) = some (.str (joinP a bs)) := by
  have hb : bindD fn_join (.str a :: bs.map .str) = some [.val (.str a), .val (.tup (bs.map .str)), .unset, .unset, .unset] := by
    unfold bindD fn_join
    simp only [if_true]
    rw [if_pos ⟨by simp, by simp; omega⟩]
    rfl
  refine C_call h4 hb ?_
  show ∃ ρ', ex (callF fns (m + 1)) s_join _ = _
  obtain ⟨j, hj⟩ := join_loop (cf := callF fns (m + 1)) (fspath_ok h2 m) (a' := .str a) (ps := .tup (bs.map .str)) bs a .unset h
  have f1 := fspath_ok h2 m a
  have f2 := get_sep_ok h3 m a
  unfold s_join
  refine ⟨_, R_seq (R_assign (d := .str a) ?_ rfl) (R_next (R_seq (R_assign (d := .str [47]) ?_ rfl) (R_next (R_seq (R_assign (d := .str a) rfl rfl) (R_next (R_seq (R_try (R_seq (R_for ?_ hj) (R_next R_skip))) (R_next (R_seq (R_ret (d := .str (joinP a bs)) rfl) R_out_ret))))))))⟩
  · simp only [ev1_eq, evq_const, evq_var, evq_op, evq_nil, evq_cons, evq_star, evq_and, evq_or, evq_not, evq_ite, evq_call, evq_tup, evq_list, evq_comp, evq_comp2, evq_comp3, evq_mapF, evq_seqI, evq_rangeI, evq_enumI, evq_setI, List.getElem?_cons_zero, fzAll, R.fz, f1, Option.map_some, one_some]
  · simp only [ev1_eq, evq_const, evq_var, evq_op, evq_nil, evq_cons, evq_star, evq_and, evq_or, evq_not, evq_ite, evq_call, evq_tup, evq_list, evq_comp, evq_comp2, evq_comp3, evq_mapF, evq_seqI, evq_rangeI, evq_enumI, evq_setI, List.getElem?_cons_zero, List.set_cons_zero, fzAll, R.fz, f2, Option.map_some, one_some]
  · rfl
end
end Mine
end P6x
section P7x
open PySem PySem.StrLaws PySem.Builtin PySem.Builtin.Str
namespace Mine
theorem small_nat {n : Nat} (h : n ≤ 1000000) : small (n : Int) = true := by
  unfold small
  simp only [Bool.and_eq_true, decide_eq_true_eq]
  omega
theorem clip_nat {k n : Nat} (h : k ≤ n) : clip (k : Int) n = k := by
  unfold clip
  rw [if_neg (by omega)]
  split <;> omega
theorem o_to {x y : List Nat} (h : x.length ≤ 1000000) : opF .slice [.str (x ++ y), .none, .int (x.length : Int)] = some (.val (.str x)) := by
  have e : bound (.int (x.length : Int)) (x ++ y).length (x ++ y).length = some x.length := by
    show (if small (x.length : Int) = true then some (clip (x.length : Int) (x ++ y).length) else none) = _
    rw [if_pos (small_nat h), clip_nat (by simp)]
  show (match bound .none 0 (x ++ y).length, bound (.int (x.length : Int)) (x ++ y).length (x ++ y).length with
    | some lo, some hi => some (R.val (.str (cut (x ++ y) lo hi)))
    | _, _ => none) = _
  rw [e]
  show some (R.val (.str (cut (x ++ y) 0 x.length))) = _
  congr 3
  unfold cut
  simp
theorem o_from {x y : List Nat} (h : x.length ≤ 1000000) : opF .slice [.str (x ++ y), .int (x.length : Int), .none] = some (.val (.str y)) := by
  have e : bound (.int (x.length : Int)) 0 (x ++ y).length = some x.length := by
    show (if small (x.length : Int) = true then some (clip (x.length : Int) (x ++ y).length) else none) = _
    rw [if_pos (small_nat h), clip_nat (by simp)]
  show (match bound (.int (x.length : Int)) 0 (x ++ y).length, bound .none (x ++ y).length (x ++ y).length with
    | some lo, some hi => some (R.val (.str (cut (x ++ y) lo hi)))
    | _, _ => none) = _
  rw [e]
  show some (R.val (.str (cut (x ++ y) x.length (x ++ y).length))) = _
  congr 3
  unfold cut
  simp
theorem rep_sign {n : Nat} {c : Nat} : rep [c] (n : Int) = List.replicate n c := by
  unfold rep
  rw [Int.toNat_natCast]
  induction n with
  | zero => rfl
  | succ n ih => rw [List.replicate_succ, List.flatten_cons, ih]; rfl
theorem o_mulsep {c n : Nat} (h : n ≤ lim) : opF .mul [.str [c], .int (n : Int)] = some (.val (.str (List.replicate n c))) := by
  show (if (small (n : Int) && decide (([c] : List Nat).length * (n : Int).toNat ≤ lim)) = true then some (R.val (.str (rep [c] (n : Int)))) else none) = _
  rw [if_pos, rep_sign]
  rw [Bool.and_eq_true, decide_eq_true_eq, Int.toNat_natCast]
  exact ⟨small_nat h, by simpa using h⟩
theorem o_rstrip {a : List Nat} {c : Nat} : opF .rstrip [.str a, .str [c]] = some (.val (.str (a.reverse.dropWhile fun x => x == c).reverse)) := by
  show some (R.val (.str (Txt.rstripChars ⟨a.toArray⟩ ⟨[c].toArray⟩).cps.toList)) = _
  rw [rstrip1]
theorem o_rfind_at {x y : List Nat} {c : Nat} (h : c ∉ y) : opF .rfind [.str (x ++ c :: y), .str [c]] = some (.val (.int (x.length : Int))) := by
  show some (R.val (.int (Txt.rfind ⟨(x ++ c :: y).toArray⟩ ⟨[c].toArray⟩))) = _
  rw [rfind_at h]
noncomputable def strip0 (x : List Nat) : List Nat := if x = List.replicate x.length 47 then x else (x.reverse.dropWhile fun c => c == 47).reverse
section
variable {fns : Nat → Option Fn}
end
end Mine
end P7x
section P8x
open PySem PySem.StrLaws PySem.Builtin PySem.Builtin.Str
namespace Mine
theorem o_mod {n k : Nat} (hk : k ≠ 0) : opF .mod [.int (n : Int), .int (k : Int)] = some (.val (.int ((n % k : Nat) : Int))) := by
  show (if (k : Int) = 0 then none else some (R.val (.int (Int.fmod (n : Int) (k : Int))))) = _
  rw [if_neg (by omega), Int.fmod_eq_emod_of_nonneg _ (by omega)]
  rfl
theorem o_div {n k : Nat} (hk : k ≠ 0) : opF .fdiv [.int (n : Int), .int (k : Int)] = some (.val (.int ((n / k : Nat) : Int))) := by
  show (if (k : Int) = 0 then none else some (R.val (.int (Int.fdiv (n : Int) (k : Int))))) = _
  rw [if_neg (by omega), Int.fdiv_eq_ediv_of_nonneg _ (by omega)]
  rfl
theorem o_tupidx {l : List D} {k : Nat} {d : D} (h : l[k]? = some d) (hk : k ≤ 1000000) : opF .index [.tup l, .int (k : Int)] = some (.val d) := by
  show (if small (k : Int) = true then (match place (k : Int) l.length with | some k => (l[k]?).map R.val | none => none) else none) = _
  rw [if_pos (small_nat hk)]
  unfold place
  have : k < l.length := (List.getElem?_eq_some_iff.mp h).1
  rw [if_pos (by omega), if_pos (by omega)]
  simp only [Int.toNat_natCast, h, Option.map_some]
theorem o_listidx {l : List D} {k : Nat} {d : D} (h : l[k]? = some d) (hk : k ≤ 1000000) : opF .index [.list l, .int (k : Int)] = some (.val d) := by
  show (if small (k : Int) = true then (match place (k : Int) l.length with | some k => (l[k]?).map R.val | none => none) else none) = _
  rw [if_pos (small_nat hk)]
  unfold place
  have : k < l.length := (List.getElem?_eq_some_iff.mp h).1
  rw [if_pos (by omega), if_pos (by omega)]
  simp only [Int.toNat_natCast, h, Option.map_some]
theorem for_range {cf : Nat → List D → Option D} {i : Nat} {b : S} {I : Nat → List Slot → Prop} {a : Nat} : ∀ {m : Nat} {ρ : List Slot}, I a ρ → (∀ k ρ, a ≤ k → k < a + m → I k ρ → ∃ ρ' o, ex cf b (ρ.set i (.val (.int (k : Int)))) = some (ρ', o) ∧ (o = .next ∨ o = .cont) ∧ I (k + 1) ρ') →
    ∃ ρ', forGo (put1 i) (ex cf b) ((List.range' a m).map fun (k : Nat) => .int (k : Int)) ρ = some (ρ', .next) ∧ I (a + m) ρ' := by
  intro m
  induction m generalizing a with
  | zero => intro ρ h0 _; exact ⟨ρ, rfl, h0⟩
  | succ m ih =>
    intro ρ h0 hs
    obtain ⟨ρ1, o, e1, ho, h1⟩ := hs a ρ (Nat.le_refl _) (by omega) h0
    obtain ⟨ρ2, e2, h2⟩ := ih (a := a + 1) h1 fun k ρ hk1 hk2 hI => hs k ρ (by omega) (by omega) hI
    refine ⟨ρ2, ?_, by rw [show a + (m + 1) = a + 1 + m by omega]; exact h2⟩
    rw [List.range'_succ, List.map_cons]
    refine R_forCons (st := put1 i) rfl e1 ?_
    rcases ho with rfl | rfl
    · exact R_fNext e2
    · exact R_fCont e2
theorem upTo_eq {n a : Nat} : (upTo n (a : Int) 1).map D.int = (List.range' a n).map fun (k : Nat) => .int (k : Int) := by
  unfold upTo
  rw [List.map_map, List.range'_eq_map_range, List.map_map]
  apply List.map_congr_left
  intro k _
  simp
theorem range1_eq {n : Nat} (h : n ≤ 1000000) : opRange [.int (n : Int)] = some ((List.range' 0 n).map fun (k : Nat) => .int (k : Int)) := by
  show (if (small (n : Int) && decide ((n : Int) ≤ 1000000)) = true then some (rangeL 0 (n : Int)) else none) = _
  rw [if_pos (by rw [small_nat h]; simp; omega)]
  unfold rangeL
  have : ((n : Int) - 0).toNat = n := by omega
  rw [this]
  exact congrArg some (upTo_eq (a := 0))
theorem o_take1 {t : List Nat} : opF .slice [.str t, .none, .int 1] = some (.val (.str (t.take 1))) := by
  have e : bound (.int 1) t.length t.length = some (clip 1 t.length) := rfl
  show (match bound .none 0 t.length, bound (.int 1) t.length t.length with
    | some lo, some hi => some (R.val (.str (cut t lo hi)))
    | _, _ => none) = _
  rw [e]
  show some (R.val (.str (cut t 0 (clip 1 t.length)))) = _
  congr 3
  cases t with
  | nil => rfl
  | cons c t =>
    have : clip 1 (c :: t).length = 1 := clip_nat (k := 1) (by simp)
    rw [this]; rfl
theorem o_strlast {t : List Nat} {c : Nat} : opF .index [.str (t ++ [c]), .int (-1)] = some (.val (.str [c])) := by
  show (if small (-1) = true then (match place (-1) (t ++ [c]).length with | some k => ((t ++ [c])[k]?).map (fun c => R.val (.str [c])) | none => none) else none) = _
  rw [if_pos (by decide)]
  unfold place
  rw [if_neg (by decide), if_pos (by simp; omega)]
  have e : (-1 + ((t ++ [c]).length : Int)).toNat = t.length := by simp; omega
  simp only [e]
  simp
theorem o_eqi {a b : Int} : opF .eq [.int a, .int b] = some (.val (.bool (decide (a = b)))) := rfl
theorem comp_run {cf : Nat → List D → Option D} {i : Nat} {it c e : X} {ρ : List Slot} {items l : List D} (h : ev cf it ρ = some [.val (.list items)]) (hg : compGo (fun d => turnD (ev cf c (ρ.set i (.val d))) (ev cf e (ρ.set i (.val d)))) items = some l) :
    ev cf (.comp i it c e) ρ = some [.own l] := by
  rw [evq_comp]
  simp only [h, hg, Option.map_some]
theorem pick_map {α β : Type} (f : α → β) (l : List α) (lo hi st : Option Int) : pick (l.map f) lo hi st = (pick l lo hi st).map f := by
  unfold pick
  rw [List.length_map, List.map_filterMap]
  congr 1
  funext k
  rw [List.getElem?_map]
theorem toInts_map : ∀ l : List Int, toInts (l.map D.int) = some l
  | [] => rfl
  | i :: l => by
    rw [List.map_cons]
    unfold toInts
    rw [toInts_map l]; rfl
theorem o_sumi {l : List Int} : opF .sum [.list (l.map .int)] = some (.val (.int l.sum)) := by
  show (toInts (l.map D.int)).map (fun is => R.val (.int is.sum)) = _
  rw [toInts_map]; rfl
theorem o_absi {i : Int} : opF .abs [.int i] = some (.val (.int (i.natAbs : Int))) := rfl
theorem o_slice3 {ns : List Int} {k n : Nat} (hk : k ≤ 1000000) (hn : n ≤ 1000000) (h0 : n ≠ 0) : opF .slice3 [.list (ns.map .int), .int (k : Int), .none, .int (n : Int)] = some (.own ((pick ns (some (k : Int)) none (some (n : Int))).map .int)) := by
  have e : partD (.int (k : Int)) = some (some (k : Int)) := by
    show (if small (k : Int) = true then some (some (k : Int)) else none) = _
    rw [if_pos (small_nat hk)]
  show (match partD (.int (k : Int)), partD .none with
    | some lo, some hi => if (n : Int) ≠ 0 ∧ small (n : Int) then some (R.own (pick (ns.map D.int) lo hi (some (n : Int)))) else none
    | _, _ => none) = _
  rw [e]
  show (if (n : Int) ≠ 0 ∧ small (n : Int) then some (R.own (pick (ns.map D.int) (some (k : Int)) none (some (n : Int)))) else none) = _
  rw [if_pos ⟨by omega, small_nat hn⟩, pick_map]
end Mine
end P8x
section P9x
open PySem PySem.StrLaws PySem.Builtin PySem.Builtin.Str
namespace Mine
section
variable {fns : Nat → Option Fn}
theorem dirname_core (h2 : fns 2 = some fn_fspath) (h3 : fns 3 = some fn_get_sep) (h6 : fns 6 = some fn_dirname) (m : Nat) {l x z : List Nat} {r i n : D} {e : D} (hr : opF .rfind [.str l, .str [47]] = some (.val r)) (ha : opF .add [r, .int 1] = some (.val i))
    (s1 : opF .slice [.str l, .none, i] = some (.val (.str x))) (hn : opF .len [.str x] = some (.val n)) (hm : opF .mul [.str [47], n] = some (.val e)) {b : Bool} (he : opF .ne [.str x, e] = some (.val (.bool b)))
    (hs : opF .rstrip [.str x, .str [47]] = some (.val (.str z))) : callF fns (m + 2) 6 [.str l] = some (.str (if x ≠ [] ∧ b = true then z else x)) := by
  refine C_call h6 (ρ := [.val (.str l), .unset, .unset, .unset]) rfl ?_
  show ∃ ρ', ex (callF fns (m + 1)) s_dirname _ = _
  have f1 := fspath_ok h2 m l
  have f2 := get_sep_ok h3 m l
  unfold s_dirname
  by_cases hx : x = []
  · subst hx
    simp only [ne_eq, not_true, false_and, if_false]
    refine ⟨?w1, ?h1⟩
    case h1 => (repeat' (first | with_reducible (first | exact R_skip | exact R_brk | exact R_cont | apply R_seq | exact R_out_brk | exact R_out_cont | exact R_out_ret | refine R_next ?_ | apply R_ite | refine R_tt ?_ | refine R_ff ?_ | apply R_while | apply R_whileGo | exact R_wDone | apply R_wGo | refine R_wNext ?_ | refine R_wCont ?_ | exact R_wBrk | exact R_wRet | apply R_for | exact R_forNil | apply R_forCons | refine R_fNext ?_ | refine R_fCont ?_ | exact R_fBrk | exact R_fRet | apply R_assign | apply R_assign2 | apply R_appendVia | apply R_append | apply R_alias | apply R_ret | apply R_assignO | apply R_setItem | apply R_delItem | apply R_augItem | apply R_fz | apply R_aug) | (((try simp (config := {failIfUnchanged := false}) only [ev1_eq, evT_eq, evI_eq, one_some, theItems_some, truthR_some, evq_const, evq_var, evq_op, evq_nil, evq_cons, evq_star, evq_and, evq_or, evq_not, evq_ite, evq_call, evq_tup, evq_list, evq_comp, evq_comp2, evq_comp3, evq_mapF, evq_seqI, evq_rangeI, evq_enumI, evq_setI, fzAll, ownAt, Mine.R.ds, Mine.R.fz, Mine.D.truth, List.map_cons, List.map_nil, List.getElem?_cons_zero, List.getElem?_cons_succ, List.getElem?_nil, Option.map_some, Option.map_none, List.set_cons_zero, List.set_cons_succ, List.getElem?_set, List.length_set, Nat.reduceLT, eq_str, ne_str, notin_str, in_str1, replace1, List.cons.injEq, and_true, and_false, true_and, false_and, Nat.reduceEqDiff, decide_true, decide_false, reduceCtorEq, Bool.not_true, Bool.not_false, Nat.reduceAdd, List.isEmpty_cons, List.isEmpty_nil, Nat.reduceLeDiff, Nat.zero_le, Option.isSome_some, Option.isSome_none, noApp_eq, List.all_cons, List.all_nil, appOK_val, appOK_own, appOK_unset, appOK_app, Bool.and_true, Bool.true_and, reduceIte, List.mem_cons, List.not_mem_nil, or_false, false_or, or_true, true_or, itemsOf, Option.bind_some, compGo, turnD_tt, o_len, o_lens, o_sub, o_neg, o_addi, o_startswith, o_endswith, le_lim, lt_lim, List.length_cons, List.length_nil, Nat.zero_add, *]) <;> rfl)) | (show (_ : Nat) < lim; decide) | decide))
  · have hx' : x.isEmpty = false := by cases x <;> first | rfl | exact absurd rfl hx
    cases b with
    | true =>
      simp only [ne_eq, hx, not_false_eq_true, and_self, if_true]
      refine ⟨?w2, ?h2⟩
      case h2 => (repeat' (first | with_reducible (first | exact R_skip | exact R_brk | exact R_cont | apply R_seq | exact R_out_brk | exact R_out_cont | exact R_out_ret | refine R_next ?_ | apply R_ite | refine R_tt ?_ | refine R_ff ?_ | apply R_while | apply R_whileGo | exact R_wDone | apply R_wGo | refine R_wNext ?_ | refine R_wCont ?_ | exact R_wBrk | exact R_wRet | apply R_for | exact R_forNil | apply R_forCons | refine R_fNext ?_ | refine R_fCont ?_ | exact R_fBrk | exact R_fRet | apply R_assign | apply R_assign2 | apply R_appendVia | apply R_append | apply R_alias | apply R_ret | apply R_assignO | apply R_setItem | apply R_delItem | apply R_augItem | apply R_fz | apply R_aug) | (((try simp (config := {failIfUnchanged := false}) only [ev1_eq, evT_eq, evI_eq, one_some, theItems_some, truthR_some, evq_const, evq_var, evq_op, evq_nil, evq_cons, evq_star, evq_and, evq_or, evq_not, evq_ite, evq_call, evq_tup, evq_list, evq_comp, evq_comp2, evq_comp3, evq_mapF, evq_seqI, evq_rangeI, evq_enumI, evq_setI, fzAll, ownAt, Mine.R.ds, Mine.R.fz, Mine.D.truth, List.map_cons, List.map_nil, List.getElem?_cons_zero, List.getElem?_cons_succ, List.getElem?_nil, Option.map_some, Option.map_none, List.set_cons_zero, List.set_cons_succ, List.getElem?_set, List.length_set, Nat.reduceLT, eq_str, ne_str, notin_str, in_str1, replace1, List.cons.injEq, and_true, and_false, true_and, false_and, Nat.reduceEqDiff, decide_true, decide_false, reduceCtorEq, Bool.not_true, Bool.not_false, Nat.reduceAdd, List.isEmpty_cons, List.isEmpty_nil, Nat.reduceLeDiff, Nat.zero_le, Option.isSome_some, Option.isSome_none, noApp_eq, List.all_cons, List.all_nil, appOK_val, appOK_own, appOK_unset, appOK_app, Bool.and_true, Bool.true_and, reduceIte, List.mem_cons, List.not_mem_nil, or_false, false_or, or_true, true_or, itemsOf, Option.bind_some, compGo, turnD_tt, o_len, o_lens, o_sub, o_neg, o_addi, o_startswith, o_endswith, le_lim, lt_lim, List.length_cons, List.length_nil, Nat.zero_add, *]) <;> rfl)) | (show (_ : Nat) < lim; decide) | decide))
    | false =>
      simp only [ne_eq, hx, not_false_eq_true, and_false, if_false, Bool.false_eq_true]
      refine ⟨?w3, ?h3⟩
      case h3 => (repeat' (first | with_reducible (first | exact R_skip | exact R_brk | exact R_cont | apply R_seq | exact R_out_brk | exact R_out_cont | exact R_out_ret | refine R_next ?_ | apply R_ite | refine R_tt ?_ | refine R_ff ?_ | apply R_while | apply R_whileGo | exact R_wDone | apply R_wGo | refine R_wNext ?_ | refine R_wCont ?_ | exact R_wBrk | exact R_wRet | apply R_for | exact R_forNil | apply R_forCons | refine R_fNext ?_ | refine R_fCont ?_ | exact R_fBrk | exact R_fRet | apply R_assign | apply R_assign2 | apply R_appendVia | apply R_append | apply R_alias | apply R_ret | apply R_assignO | apply R_setItem | apply R_delItem | apply R_augItem | apply R_fz | apply R_aug) | (((try simp (config := {failIfUnchanged := false}) only [ev1_eq, evT_eq, evI_eq, one_some, theItems_some, truthR_some, evq_const, evq_var, evq_op, evq_nil, evq_cons, evq_star, evq_and, evq_or, evq_not, evq_ite, evq_call, evq_tup, evq_list, evq_comp, evq_comp2, evq_comp3, evq_mapF, evq_seqI, evq_rangeI, evq_enumI, evq_setI, fzAll, ownAt, Mine.R.ds, Mine.R.fz, Mine.D.truth, List.map_cons, List.map_nil, List.getElem?_cons_zero, List.getElem?_cons_succ, List.getElem?_nil, Option.map_some, Option.map_none, List.set_cons_zero, List.set_cons_succ, List.getElem?_set, List.length_set, Nat.reduceLT, eq_str, ne_str, notin_str, in_str1, replace1, List.cons.injEq, and_true, and_false, true_and, false_and, Nat.reduceEqDiff, decide_true, decide_false, reduceCtorEq, Bool.not_true, Bool.not_false, Nat.reduceAdd, List.isEmpty_cons, List.isEmpty_nil, Nat.reduceLeDiff, Nat.zero_le, Option.isSome_some, Option.isSome_none, noApp_eq, List.all_cons, List.all_nil, appOK_val, appOK_own, appOK_unset, appOK_app, Bool.and_true, Bool.true_and, reduceIte, List.mem_cons, List.not_mem_nil, or_false, false_or, or_true, true_or, itemsOf, Option.bind_some, compGo, turnD_tt, o_len, o_lens, o_sub, o_neg, o_addi, o_startswith, o_endswith, le_lim, lt_lim, List.length_cons, List.length_nil, Nat.zero_add, *]) <;> rfl)) | (show (_ : Nat) < lim; decide) | decide))
theorem dirname_at (h2 : fns 2 = some fn_fspath) (h3 : fns 3 = some fn_get_sep) (h6 : fns 6 = some fn_dirname) (m : Nat) {x y : List Nat} (h : 47 ∉ y) (hl : x.length < 1000000) :
    callF fns (m + 2) 6 [.str (x ++ 47 :: y)] = some (.str (strip0 (x ++ [47]))) := by
  have e : x ++ 47 :: y = (x ++ [47]) ++ y := by simp
  have hlen : ((x ++ [47]).length : Int) = (x.length : Int) + 1 := by simp
  have := dirname_core h2 h3 h6 m (l := x ++ 47 :: y) (x := x ++ [47]) (z := ((x ++ [47]).reverse.dropWhile fun c => c == 47).reverse) (r := .int (x.length : Int)) (i := .int ((x ++ [47]).length : Int)) (n := .int ((x ++ [47]).length : Int))
    (e := .str (List.replicate (x ++ [47]).length 47)) (b := !decide (x ++ [47] = List.replicate (x ++ [47]).length 47)) (o_rfind_at h) (by rw [hlen]; rfl) (by rw [e]; exact o_to (by simp; omega)) rfl (o_mulsep (by unfold lim; simp; omega)) rfl o_rstrip
  rw [this]
  unfold strip0
  by_cases hx : x ++ [47] = List.replicate (x ++ [47]).length 47
  · rw [if_pos hx, if_neg (by rintro ⟨_, q⟩; rw [Bool.not_eq_true', decide_eq_false_iff_not] at q; exact q hx)]
  · rw [if_neg hx, if_pos ⟨by simp, by rw [Bool.not_eq_true', decide_eq_false_iff_not]; exact hx⟩]
end
section
variable {fns : Nat → Option Fn}
end
noncomputable def nD (n : List (List Nat)) : D := .list (n.map .str)
theorem eqv_str {a b : List Nat} : PyData.eqv (D.str a).toPy (D.str b).toPy = decide (a = b) := by
  have h := fun (x y : PySem.Str) => (show PyData.eqv (.str x) (.str y) = (x == y) from by simp [PyData.eqv])
  show PyData.eqv (.str ⟨a.toArray⟩) (.str ⟨b.toArray⟩) = _
  rw [h]
  by_cases e : a = b
  · subst e; simp
  · rw [decide_eq_false e, beq_eq_false_iff_ne]
    intro q
    exact e (by simpa using q)
theorem eqvs_str : ∀ {a b : List (List Nat)}, PyData.eqvAll (D.toPys (a.map .str)) (D.toPys (b.map .str)) = decide (a = b)
  | [], [] => rfl
  | [], _ :: _ => by simp [D.toPys, PyData.eqvAll]
  | _ :: _, [] => by simp [D.toPys, PyData.eqvAll]
  | x :: a, y :: b => by
    simp only [List.map_cons, D.toPys, PyData.eqvAll, eqv_str, eqvs_str (a := a) (b := b)]
    by_cases h1 : x = y <;> by_cases h2 : a = b <;> simp [h1, h2]
theorem eqv_nD {a b : List (List Nat)} : PyData.eqv (nD a).toPy (nD b).toPy = decide (a = b) := by
  unfold nD D.toPy
  rw [PyData.eqv]
  exact eqvs_str
theorem oks_str : ∀ {k : Nat} {l : List (List Nat)}, D.oks (k + 1) (l.map .str) = true
  | _, [] => rfl
  | k, s :: l => by
    rw [List.map_cons]
    unfold D.oks
    rw [oks_str]; rfl
theorem ok_nD {k : Nat} {n : List (List Nat)} : (nD n).ok (k + 2) = true := by
  unfold nD D.ok
  exact oks_str
theorem o_eq_nD {a b : List (List Nat)} : opF .eq [nD a, nD b] = some (.val (.bool (decide (a = b)))) := by
  have e : eqD (nD a) (nD b) = some (decide (a = b)) := by
    show (if ((nD a).ok 9 && (nD b).ok 9) = true then some (PyData.eqv (nD a).toPy (nD b).toPy) else none) = _
    rw [ok_nD, ok_nD, eqv_nD]; rfl
  show (eqD (nD a) (nD b)).map (fun x => R.val (.bool x)) = _
  rw [e]; rfl
end Mine
end P9x
section F07x
open PySem
namespace Mine
noncomputable def fns07 : Nat → Option Fn := fun i => ([(0, fn_escape), (1, fn_translate7), (2, fn_fspath), (3, fn_get_sep), (4, fn_join), (6, fn_dirname), (7, fn_splitroot), (8, fn_basename), (9, fn_normpath), (10, fn_abspath), (11, fn_relpath), (12, fn_commonprefix), (31, fn_law_runs), (32, fn_law_laid)] : List (Nat × Fn)).lookup i
end Mine
end F07x
section P07ax
open PySem PySem.StrLaws PySem.Builtin PySem.Builtin.Str
namespace Mine
noncomputable def llB : S := (.seq (.assign 2 (.op .add (.cons (.op .add (.cons (.var 2) (.cons (.op .index (.cons (.var 1) (.cons (.var 3) .nil))) .nil))) (.cons (.op .index (.cons (.var 0) (.cons (.op .add (.cons (.var 3) (.cons (.const (.int 1)) .nil))) .nil))) .nil)))) .skip)
noncomputable def lrC : X := (.op .lt (.cons (.var 5) (.cons (.op .len (.cons (.var 0) .nil)) .nil)))
noncomputable def lrW : S := (.seq (.assign 6 (.var 4)) (.seq (.ite (.op .is_ (.cons (.op .index (.cons (.var 0) (.cons (.var 5) .nil))) (.cons (.var 1) .nil))) (.seq (.assign 5 (.op .add (.cons (.var 5) (.cons (.const (.int 1)) .nil)))) (.seq (.while (.and (.op .lt (.cons (.var 4) (.cons (.op .len (.cons (.var 2) .nil)) .nil))) (.op .ne (.cons (.op .index (.cons (.var 2) (.cons (.var 4) .nil))) (.cons (.op .index (.cons (.op .index (.cons (.var 0) (.cons (.var 5) .nil))) (.cons (.op .neg (.cons (.const (.int 1)) .nil)) .nil))) .nil)))) (.seq (.assign 4 (.op .add (.cons (.var 4) (.cons (.const (.int 1)) .nil)))) .skip)) (.seq (.append 3 (.op .slice (.cons (.var 2) (.cons (.var 6) (.cons (.var 4) .nil))))) .skip))) .skip) (.seq (.ite (.or (.op .eq (.cons (.var 4) (.cons (.op .len (.cons (.var 2) .nil)) .nil))) (.op .ne (.cons (.op .index (.cons (.var 2) (.cons (.var 4) .nil))) (.cons (.op .index (.cons (.op .index (.cons (.var 0) (.cons (.var 5) .nil))) (.cons (.op .neg (.cons (.const (.int 1)) .nil)) .nil))) .nil)))) (.seq (.ret (.const .none)) .skip) .skip) (.seq (.assign 4 (.op .add (.cons (.var 4) (.cons (.const (.int 1)) .nil)))) (.seq (.assign 5 (.op .add (.cons (.var 5) (.cons (.const (.int 1)) .nil)))) .skip)))))
noncomputable def lrIC : X := (.and (.op .lt (.cons (.var 4) (.cons (.op .len (.cons (.var 2) .nil)) .nil))) (.op .ne (.cons (.op .index (.cons (.var 2) (.cons (.var 4) .nil))) (.cons (.op .index (.cons (.op .index (.cons (.var 0) (.cons (.var 5) .nil))) (.cons (.op .neg (.cons (.const (.int 1)) .nil)) .nil))) .nil))))
noncomputable def lrI : S := (.seq (.assign 4 (.op .add (.cons (.var 4) (.cons (.const (.int 1)) .nil)))) .skip)
theorem P_succ {p k : Nat} : P (p + 1) k = P p (k + 1) := by unfold P; rw [show p + 1 + k = p + (k + 1) by omega]
section
variable {cf : Nat → List D → Option D} {PT K : D} {name : List Nat} {x1 x3 x6 : Slot} {e : List Nat} {c : Nat}
theorem scan_c {p : Nat} {u : List Nat} (H : At name p u) (hK : opF .index [PT, K] = some (.val (.str e))) (he : opF .index [.str e, .int (-1)] = some (.val (.str [c]))) :
    evT cf lrIC [.val PT, x1, .val (.str name), x3, .val (P p 0), .val K, x6] = some (match u with | [] => false | d :: _ => !decide (d = c)) := by
  have h1 : opF .lt [P p 0, .int (name.length : Int)] = some (.val (.bool (u[0]?).isSome)) := lt_N H (k := 0)
  have h2 := idx H (k := 0) (by decide)
  have h3 : opF .neg [.int 1] = some (.val (.int (-1))) := rfl
  have h4 : opF .len [.str name] = some (.val (.int (name.length : Int))) := rfl
  unfold lrIC
  generalize (.int (name.length : Int) : D) = L at *
  generalize P p 0 = i at *
  cases u with
  | nil => (((try simp (config := {failIfUnchanged := false}) only [ev1_eq, evT_eq, evI_eq, one_some, theItems_some, truthR_some, evq_const, evq_var, evq_op, evq_nil, evq_cons, evq_star, evq_and, evq_or, evq_not, evq_ite, evq_call, evq_tup, evq_list, evq_comp, evq_comp2, evq_comp3, evq_mapF, evq_seqI, evq_rangeI, evq_enumI, evq_setI, fzAll, ownAt, Mine.R.ds, Mine.R.fz, Mine.D.truth, List.map_cons, List.map_nil, List.getElem?_cons_zero, List.getElem?_cons_succ, List.getElem?_nil, Option.map_some, Option.map_none, List.set_cons_zero, List.set_cons_succ, List.getElem?_set, List.length_set, Nat.reduceLT, eq_str, ne_str, notin_str, in_str1, replace1, List.cons.injEq, and_true, and_false, true_and, false_and, Nat.reduceEqDiff, decide_true, decide_false, reduceCtorEq, Bool.not_true, Bool.not_false, Nat.reduceAdd, List.isEmpty_cons, List.isEmpty_nil, Nat.reduceLeDiff, Nat.zero_le, Option.isSome_some, Option.isSome_none, noApp_eq, List.all_cons, List.all_nil, appOK_val, appOK_own, appOK_unset, appOK_app, Bool.and_true, Bool.true_and, reduceIte, List.mem_cons, List.not_mem_nil, or_false, false_or, or_true, true_or, itemsOf, Option.bind_some, compGo, turnD_tt, o_len, o_lens, o_sub, o_neg, o_addi, o_startswith, o_endswith, le_lim, lt_lim, List.length_cons, List.length_nil, Nat.zero_add, *]) <;> rfl))
  | cons d u =>
    replace h2 : opF .index [.str name, i] = some (.val (.str [d])) := h2
    replace h1 : opF .lt [i, L] = some (.val (.bool true)) := h1
    (((try simp (config := {failIfUnchanged := false}) only [ev1_eq, evT_eq, evI_eq, one_some, theItems_some, truthR_some, evq_const, evq_var, evq_op, evq_nil, evq_cons, evq_star, evq_and, evq_or, evq_not, evq_ite, evq_call, evq_tup, evq_list, evq_comp, evq_comp2, evq_comp3, evq_mapF, evq_seqI, evq_rangeI, evq_enumI, evq_setI, fzAll, ownAt, Mine.R.ds, Mine.R.fz, Mine.D.truth, List.map_cons, List.map_nil, List.getElem?_cons_zero, List.getElem?_cons_succ, List.getElem?_nil, Option.map_some, Option.map_none, List.set_cons_zero, List.set_cons_succ, List.getElem?_set, List.length_set, Nat.reduceLT, eq_str, ne_str, notin_str, in_str1, replace1, List.cons.injEq, and_true, and_false, true_and, false_and, Nat.reduceEqDiff, decide_true, decide_false, reduceCtorEq, Bool.not_true, Bool.not_false, Nat.reduceAdd, List.isEmpty_cons, List.isEmpty_nil, Nat.reduceLeDiff, Nat.zero_le, Option.isSome_some, Option.isSome_none, noApp_eq, List.all_cons, List.all_nil, appOK_val, appOK_own, appOK_unset, appOK_app, Bool.and_true, Bool.true_and, reduceIte, List.mem_cons, List.not_mem_nil, or_false, false_or, or_true, true_or, itemsOf, Option.bind_some, compGo, turnD_tt, o_len, o_lens, o_sub, o_neg, o_addi, o_startswith, o_endswith, le_lim, lt_lim, List.length_cons, List.length_nil, Nat.zero_add, *]) <;> rfl))
theorem scan_run (hK : opF .index [PT, K] = some (.val (.str e))) (he : opF .index [.str e, .int (-1)] = some (.val (.str [c]))) {v : List Nat} (hv : v = [] ∨ v.head? = some c) : ∀ (r : List Nat) (p : Nat), At name p (r ++ v) → c ∉ r → ∀ fuel, r.length ≤ fuel →
    whileGo (evT cf lrIC) (ex cf lrI) (fuel + 1) [.val PT, x1, .val (.str name), x3, .val (P p 0), .val K, x6] = some ([.val PT, x1, .val (.str name), x3, .val (P p r.length), .val K, x6], .next) := by
  intro r
  induction r with
  | nil =>
    intro p H _ fuel _
    refine R_whileGo (t := false) ?_ R_wDone
    rw [scan_c H hK he]
    rcases hv with rfl | hv
    · rfl
    · cases v with
      | nil => cases hv
      | cons d v => cases hv; simp
  | cons d r ih =>
    intro p H hc fuel hf
    obtain ⟨f, rfl⟩ : ∃ f, fuel = f + 1 := ⟨fuel - 1, by simp at hf; omega⟩
    have hd : d ≠ c := fun q => hc (by rw [q]; simp)
    have h1 : opF .add [P p 0, .int 1] = some (.val (P p 1)) := P_add 0 1
    refine R_whileGo (t := true) ?_ (R_wGo (ρ₁ := [.val PT, x1, .val (.str name), x3, .val (P (p + 1) 0), .val K, x6]) (o := .next) ?_ (R_wNext ?_))
    · rw [scan_c H hK he]
      simp [hd]
    · rw [P_succ]
      unfold lrI
      generalize P p 0 = i at *
      generalize P p 1 = i1 at *
      refine R_seq (R_assign (d := i1) ?_ rfl) (R_next R_skip)
      (((try simp (config := {failIfUnchanged := false}) only [ev1_eq, evT_eq, evI_eq, one_some, theItems_some, truthR_some, evq_const, evq_var, evq_op, evq_nil, evq_cons, evq_star, evq_and, evq_or, evq_not, evq_ite, evq_call, evq_tup, evq_list, evq_comp, evq_comp2, evq_comp3, evq_mapF, evq_seqI, evq_rangeI, evq_enumI, evq_setI, fzAll, ownAt, Mine.R.ds, Mine.R.fz, Mine.D.truth, List.map_cons, List.map_nil, List.getElem?_cons_zero, List.getElem?_cons_succ, List.getElem?_nil, Option.map_some, Option.map_none, List.set_cons_zero, List.set_cons_succ, List.getElem?_set, List.length_set, Nat.reduceLT, eq_str, ne_str, notin_str, in_str1, replace1, List.cons.injEq, and_true, and_false, true_and, false_and, Nat.reduceEqDiff, decide_true, decide_false, reduceCtorEq, Bool.not_true, Bool.not_false, Nat.reduceAdd, List.isEmpty_cons, List.isEmpty_nil, Nat.reduceLeDiff, Nat.zero_le, Option.isSome_some, Option.isSome_none, noApp_eq, List.all_cons, List.all_nil, appOK_val, appOK_own, appOK_unset, appOK_app, Bool.and_true, Bool.true_and, reduceIte, List.mem_cons, List.not_mem_nil, or_false, false_or, or_true, true_or, itemsOf, Option.bind_some, compGo, turnD_tt, o_len, o_lens, o_sub, o_neg, o_addi, o_startswith, o_endswith, le_lim, lt_lim, List.length_cons, List.length_nil, Nat.zero_add, *]) <;> rfl))
    · have := ih (p + 1) (H.skip (k := 1) (by simp)) (fun q => hc (List.mem_cons_of_mem _ q)) f (by simpa using hf)
      rw [this, P_succ]; rfl
theorem eq_N {pat u : List Nat} {p : Nat} (H : At pat p u) (k : Nat) : opF .eq [P p k, .int (pat.length : Int)] = some (.val (.bool (decide (k = u.length)))) := by
  have hl := H.len
  show some (R.val (.bool (decide (((p + k : Nat) : Int) = (pat.length : Int))))) = _
  congr 4
  simp only [eq_iff_iff]
  omega
theorem mark_turn {p : Nat} {d : Nat} {u : List Nat} {R : List D} {K1 : D} (H : At name p (d :: u)) (hK : opF .index [PT, K] = some (.val (.str e))) (he : opF .index [.str e, .int (-1)] = some (.val (.str [c]))) (hK1 : opF .add [K, .int 1] = some (.val K1)) :
    ex cf lrW [.val PT, .val (.tok 0), .val (.str name), .own R, .val (P p 0), .val K, x6] =
      some ([.val PT, .val (.tok 0), .val (.str name), .own R, .val (if d = c then P p 1 else P p 0), .val (if d = c then K1 else K), .val (P p 0)], if d = c then .next else .ret .none) := by
  have h1 : opF .eq [P p 0, .int (name.length : Int)] = some (.val (.bool false)) := by rw [eq_N H 0]; rfl
  have h2 : opF .index [.str name, P p 0] = some (.val (.str [d])) := idx H (k := 0) (by decide)
  have h4 : opF .len [.str name] = some (.val (.int (name.length : Int))) := rfl
  have h5 : opF .is_ [.str e, .tok 0] = some (.val (.bool false)) := rfl
  have h6 : opF .add [P p 0, .int 1] = some (.val (P p 1)) := P_add 0 1
  unfold lrW
  generalize (.int (name.length : Int) : D) = L at *
  generalize P p 0 = i at *
  generalize P p 1 = i1 at *
  by_cases h : d = c
  · subst h
    simp only [if_true]
    refine R_seq (R_assign (d := i) rfl rfl) (R_next (R_seq (R_ite (t := false) ?a1 (R_ff R_skip)) (R_next (R_seq (R_ite (t := false) ?a2 (R_ff R_skip)) (R_next (R_seq (R_assign (d := i1) ?a3 rfl) (R_next (R_seq (R_assign (d := K1) ?a4 rfl) (R_next R_skip)))))))))
    case a1 => (((try simp (config := {failIfUnchanged := false}) only [ev1_eq, evT_eq, evI_eq, one_some, theItems_some, truthR_some, evq_const, evq_var, evq_op, evq_nil, evq_cons, evq_star, evq_and, evq_or, evq_not, evq_ite, evq_call, evq_tup, evq_list, evq_comp, evq_comp2, evq_comp3, evq_mapF, evq_seqI, evq_rangeI, evq_enumI, evq_setI, fzAll, ownAt, Mine.R.ds, Mine.R.fz, Mine.D.truth, List.map_cons, List.map_nil, List.getElem?_cons_zero, List.getElem?_cons_succ, List.getElem?_nil, Option.map_some, Option.map_none, List.set_cons_zero, List.set_cons_succ, List.getElem?_set, List.length_set, Nat.reduceLT, eq_str, ne_str, notin_str, in_str1, replace1, List.cons.injEq, and_true, and_false, true_and, false_and, Nat.reduceEqDiff, decide_true, decide_false, reduceCtorEq, Bool.not_true, Bool.not_false, Nat.reduceAdd, List.isEmpty_cons, List.isEmpty_nil, Nat.reduceLeDiff, Nat.zero_le, Option.isSome_some, Option.isSome_none, noApp_eq, List.all_cons, List.all_nil, appOK_val, appOK_own, appOK_unset, appOK_app, Bool.and_true, Bool.true_and, reduceIte, List.mem_cons, List.not_mem_nil, or_false, false_or, or_true, true_or, itemsOf, Option.bind_some, compGo, turnD_tt, o_len, o_lens, o_sub, o_neg, o_addi, o_startswith, o_endswith, le_lim, lt_lim, List.length_cons, List.length_nil, Nat.zero_add, *]) <;> rfl))
    case a2 => (((try simp (config := {failIfUnchanged := false}) only [ev1_eq, evT_eq, evI_eq, one_some, theItems_some, truthR_some, evq_const, evq_var, evq_op, evq_nil, evq_cons, evq_star, evq_and, evq_or, evq_not, evq_ite, evq_call, evq_tup, evq_list, evq_comp, evq_comp2, evq_comp3, evq_mapF, evq_seqI, evq_rangeI, evq_enumI, evq_setI, fzAll, ownAt, Mine.R.ds, Mine.R.fz, Mine.D.truth, List.map_cons, List.map_nil, List.getElem?_cons_zero, List.getElem?_cons_succ, List.getElem?_nil, Option.map_some, Option.map_none, List.set_cons_zero, List.set_cons_succ, List.getElem?_set, List.length_set, Nat.reduceLT, eq_str, ne_str, notin_str, in_str1, replace1, List.cons.injEq, and_true, and_false, true_and, false_and, Nat.reduceEqDiff, decide_true, decide_false, reduceCtorEq, Bool.not_true, Bool.not_false, Nat.reduceAdd, List.isEmpty_cons, List.isEmpty_nil, Nat.reduceLeDiff, Nat.zero_le, Option.isSome_some, Option.isSome_none, noApp_eq, List.all_cons, List.all_nil, appOK_val, appOK_own, appOK_unset, appOK_app, Bool.and_true, Bool.true_and, reduceIte, List.mem_cons, List.not_mem_nil, or_false, false_or, or_true, true_or, itemsOf, Option.bind_some, compGo, turnD_tt, o_len, o_lens, o_sub, o_neg, o_addi, o_startswith, o_endswith, le_lim, lt_lim, List.length_cons, List.length_nil, Nat.zero_add, *]) <;> rfl))
    case a3 => (((try simp (config := {failIfUnchanged := false}) only [ev1_eq, evT_eq, evI_eq, one_some, theItems_some, truthR_some, evq_const, evq_var, evq_op, evq_nil, evq_cons, evq_star, evq_and, evq_or, evq_not, evq_ite, evq_call, evq_tup, evq_list, evq_comp, evq_comp2, evq_comp3, evq_mapF, evq_seqI, evq_rangeI, evq_enumI, evq_setI, fzAll, ownAt, Mine.R.ds, Mine.R.fz, Mine.D.truth, List.map_cons, List.map_nil, List.getElem?_cons_zero, List.getElem?_cons_succ, List.getElem?_nil, Option.map_some, Option.map_none, List.set_cons_zero, List.set_cons_succ, List.getElem?_set, List.length_set, Nat.reduceLT, eq_str, ne_str, notin_str, in_str1, replace1, List.cons.injEq, and_true, and_false, true_and, false_and, Nat.reduceEqDiff, decide_true, decide_false, reduceCtorEq, Bool.not_true, Bool.not_false, Nat.reduceAdd, List.isEmpty_cons, List.isEmpty_nil, Nat.reduceLeDiff, Nat.zero_le, Option.isSome_some, Option.isSome_none, noApp_eq, List.all_cons, List.all_nil, appOK_val, appOK_own, appOK_unset, appOK_app, Bool.and_true, Bool.true_and, reduceIte, List.mem_cons, List.not_mem_nil, or_false, false_or, or_true, true_or, itemsOf, Option.bind_some, compGo, turnD_tt, o_len, o_lens, o_sub, o_neg, o_addi, o_startswith, o_endswith, le_lim, lt_lim, List.length_cons, List.length_nil, Nat.zero_add, *]) <;> rfl))
    case a4 => (((try simp (config := {failIfUnchanged := false}) only [ev1_eq, evT_eq, evI_eq, one_some, theItems_some, truthR_some, evq_const, evq_var, evq_op, evq_nil, evq_cons, evq_star, evq_and, evq_or, evq_not, evq_ite, evq_call, evq_tup, evq_list, evq_comp, evq_comp2, evq_comp3, evq_mapF, evq_seqI, evq_rangeI, evq_enumI, evq_setI, fzAll, ownAt, Mine.R.ds, Mine.R.fz, Mine.D.truth, List.map_cons, List.map_nil, List.getElem?_cons_zero, List.getElem?_cons_succ, List.getElem?_nil, Option.map_some, Option.map_none, List.set_cons_zero, List.set_cons_succ, List.getElem?_set, List.length_set, Nat.reduceLT, eq_str, ne_str, notin_str, in_str1, replace1, List.cons.injEq, and_true, and_false, true_and, false_and, Nat.reduceEqDiff, decide_true, decide_false, reduceCtorEq, Bool.not_true, Bool.not_false, Nat.reduceAdd, List.isEmpty_cons, List.isEmpty_nil, Nat.reduceLeDiff, Nat.zero_le, Option.isSome_some, Option.isSome_none, noApp_eq, List.all_cons, List.all_nil, appOK_val, appOK_own, appOK_unset, appOK_app, Bool.and_true, Bool.true_and, reduceIte, List.mem_cons, List.not_mem_nil, or_false, false_or, or_true, true_or, itemsOf, Option.bind_some, compGo, turnD_tt, o_len, o_lens, o_sub, o_neg, o_addi, o_startswith, o_endswith, le_lim, lt_lim, List.length_cons, List.length_nil, Nat.zero_add, *]) <;> rfl))
  · simp only [if_neg h]
    refine R_seq (R_assign (d := i) rfl rfl) (R_next (R_seq (R_ite (t := false) ?b1 (R_ff R_skip)) (R_next (R_seq (R_ite (t := true) ?b2 (R_tt (R_seq (R_ret (d := .none) rfl) R_out_ret))) R_out_ret))))
    case b1 => (((try simp (config := {failIfUnchanged := false}) only [ev1_eq, evT_eq, evI_eq, one_some, theItems_some, truthR_some, evq_const, evq_var, evq_op, evq_nil, evq_cons, evq_star, evq_and, evq_or, evq_not, evq_ite, evq_call, evq_tup, evq_list, evq_comp, evq_comp2, evq_comp3, evq_mapF, evq_seqI, evq_rangeI, evq_enumI, evq_setI, fzAll, ownAt, Mine.R.ds, Mine.R.fz, Mine.D.truth, List.map_cons, List.map_nil, List.getElem?_cons_zero, List.getElem?_cons_succ, List.getElem?_nil, Option.map_some, Option.map_none, List.set_cons_zero, List.set_cons_succ, List.getElem?_set, List.length_set, Nat.reduceLT, eq_str, ne_str, notin_str, in_str1, replace1, List.cons.injEq, and_true, and_false, true_and, false_and, Nat.reduceEqDiff, decide_true, decide_false, reduceCtorEq, Bool.not_true, Bool.not_false, Nat.reduceAdd, List.isEmpty_cons, List.isEmpty_nil, Nat.reduceLeDiff, Nat.zero_le, Option.isSome_some, Option.isSome_none, noApp_eq, List.all_cons, List.all_nil, appOK_val, appOK_own, appOK_unset, appOK_app, Bool.and_true, Bool.true_and, reduceIte, List.mem_cons, List.not_mem_nil, or_false, false_or, or_true, true_or, itemsOf, Option.bind_some, compGo, turnD_tt, o_len, o_lens, o_sub, o_neg, o_addi, o_startswith, o_endswith, le_lim, lt_lim, List.length_cons, List.length_nil, Nat.zero_add, *]) <;> rfl))
    case b2 => (((try simp (config := {failIfUnchanged := false}) only [ev1_eq, evT_eq, evI_eq, one_some, theItems_some, truthR_some, evq_const, evq_var, evq_op, evq_nil, evq_cons, evq_star, evq_and, evq_or, evq_not, evq_ite, evq_call, evq_tup, evq_list, evq_comp, evq_comp2, evq_comp3, evq_mapF, evq_seqI, evq_rangeI, evq_enumI, evq_setI, fzAll, ownAt, Mine.R.ds, Mine.R.fz, Mine.D.truth, List.map_cons, List.map_nil, List.getElem?_cons_zero, List.getElem?_cons_succ, List.getElem?_nil, Option.map_some, Option.map_none, List.set_cons_zero, List.set_cons_succ, List.getElem?_set, List.length_set, Nat.reduceLT, eq_str, ne_str, notin_str, in_str1, replace1, List.cons.injEq, and_true, and_false, true_and, false_and, Nat.reduceEqDiff, decide_true, decide_false, reduceCtorEq, Bool.not_true, Bool.not_false, Nat.reduceAdd, List.isEmpty_cons, List.isEmpty_nil, Nat.reduceLeDiff, Nat.zero_le, Option.isSome_some, Option.isSome_none, noApp_eq, List.all_cons, List.all_nil, appOK_val, appOK_own, appOK_unset, appOK_app, Bool.and_true, Bool.true_and, reduceIte, List.mem_cons, List.not_mem_nil, or_false, false_or, or_true, true_or, itemsOf, Option.bind_some, compGo, turnD_tt, o_len, o_lens, o_sub, o_neg, o_addi, o_startswith, o_endswith, le_lim, lt_lim, List.length_cons, List.length_nil, Nat.zero_add, *]) <;> rfl))
theorem star_turn {p : Nat} {r v : List Nat} {R : List D} {K1 K2 : D} (H : At name p (r ++ c :: v)) (hc : c ∉ r) (hr : r.length ≤ 99998) (hl : R.length < lim) (hK : opF .index [PT, K] = some (.val (.tok 0))) (hK1 : opF .add [K, .int 1] = some (.val K1)) (hP : opF .index [PT, K1] = some (.val (.str e)))
    (he : opF .index [.str e, .int (-1)] = some (.val (.str [c]))) (hK2 : opF .add [K1, .int 1] = some (.val K2)) :
    ex cf lrW [.val PT, .val (.tok 0), .val (.str name), .own R, .val (P p 0), .val K, x6] = some ([.val PT, .val (.tok 0), .val (.str name), .own (R ++ [.str r]), .val (P p (r.length + 1)), .val K2, .val (P p 0)], .next) := by
  have hs := scan_run (cf := cf) (x1 := .val (.tok 0)) (x3 := .own R) (x6 := .val (P p 0)) hP he (v := c :: v) (.inr rfl) r p H hc 99999 (by omega)
  have H2 := H.skip (k := r.length) (by simp)
  rw [List.drop_left] at H2
  have h1 : opF .eq [P p r.length, .int (name.length : Int)] = some (.val (.bool false)) := by rw [eq_N H]; simp
  have h2 : opF .index [.str name, P p r.length] = some (.val (.str [c])) := by
    have := idx H (k := r.length) (by omega)
    rw [this]; simp
  have h3 : opF .slice [.str name, P p 0, P p r.length] = some (.val (.str r)) := by
    rw [sl H (by omega) (by omega)]
    unfold cut; simp
  have h4 : opF .len [.str name] = some (.val (.int (name.length : Int))) := rfl
  have h5 : opF .is_ [.tok 0, .tok 0] = some (.val (.bool true)) := rfl
  have h6 : opF .add [P p r.length, .int 1] = some (.val (P p (r.length + 1))) := P_add _ 1
  unfold lrIC lrI at hs
  unfold lrW
  generalize (.int (name.length : Int) : D) = L at *
  generalize P p 0 = i at *
  generalize P p r.length = i1 at *
  generalize P p (r.length + 1) = i2 at *
  refine R_seq (R_assign (d := i) rfl rfl) (R_next (R_seq (R_ite (t := true) ?a1 (R_tt (R_seq (R_assign (d := K1) ?a2 rfl) (R_next (R_seq (R_while hs) (R_next (R_seq (R_append (d := .str r) (l := R) ?a3 rfl hl rfl) (R_next R_skip)))))))) (R_next (R_seq (R_ite (t := false) ?a4 (R_ff R_skip)) (R_next (R_seq (R_assign (d := i2) ?a5 rfl) (R_next (R_seq (R_assign (d := K2) ?a6 rfl) (R_next R_skip)))))))))
  case a1 => clear hs; (((try simp (config := {failIfUnchanged := false}) only [ev1_eq, evT_eq, evI_eq, one_some, theItems_some, truthR_some, evq_const, evq_var, evq_op, evq_nil, evq_cons, evq_star, evq_and, evq_or, evq_not, evq_ite, evq_call, evq_tup, evq_list, evq_comp, evq_comp2, evq_comp3, evq_mapF, evq_seqI, evq_rangeI, evq_enumI, evq_setI, fzAll, ownAt, Mine.R.ds, Mine.R.fz, Mine.D.truth, List.map_cons, List.map_nil, List.getElem?_cons_zero, List.getElem?_cons_succ, List.getElem?_nil, Option.map_some, Option.map_none, List.set_cons_zero, List.set_cons_succ, List.getElem?_set, List.length_set, Nat.reduceLT, eq_str, ne_str, notin_str, in_str1, replace1, List.cons.injEq, and_true, and_false, true_and, false_and, Nat.reduceEqDiff, decide_true, decide_false, reduceCtorEq, Bool.not_true, Bool.not_false, Nat.reduceAdd, List.isEmpty_cons, List.isEmpty_nil, Nat.reduceLeDiff, Nat.zero_le, Option.isSome_some, Option.isSome_none, noApp_eq, List.all_cons, List.all_nil, appOK_val, appOK_own, appOK_unset, appOK_app, Bool.and_true, Bool.true_and, reduceIte, List.mem_cons, List.not_mem_nil, or_false, false_or, or_true, true_or, itemsOf, Option.bind_some, compGo, turnD_tt, o_len, o_lens, o_sub, o_neg, o_addi, o_startswith, o_endswith, le_lim, lt_lim, List.length_cons, List.length_nil, Nat.zero_add, *]) <;> rfl))
  case a2 => clear hs; (((try simp (config := {failIfUnchanged := false}) only [ev1_eq, evT_eq, evI_eq, one_some, theItems_some, truthR_some, evq_const, evq_var, evq_op, evq_nil, evq_cons, evq_star, evq_and, evq_or, evq_not, evq_ite, evq_call, evq_tup, evq_list, evq_comp, evq_comp2, evq_comp3, evq_mapF, evq_seqI, evq_rangeI, evq_enumI, evq_setI, fzAll, ownAt, Mine.R.ds, Mine.R.fz, Mine.D.truth, List.map_cons, List.map_nil, List.getElem?_cons_zero, List.getElem?_cons_succ, List.getElem?_nil, Option.map_some, Option.map_none, List.set_cons_zero, List.set_cons_succ, List.getElem?_set, List.length_set, Nat.reduceLT, eq_str, ne_str, notin_str, in_str1, replace1, List.cons.injEq, and_true, and_false, true_and, false_and, Nat.reduceEqDiff, decide_true, decide_false, reduceCtorEq, Bool.not_true, Bool.not_false, Nat.reduceAdd, List.isEmpty_cons, List.isEmpty_nil, Nat.reduceLeDiff, Nat.zero_le, Option.isSome_some, Option.isSome_none, noApp_eq, List.all_cons, List.all_nil, appOK_val, appOK_own, appOK_unset, appOK_app, Bool.and_true, Bool.true_and, reduceIte, List.mem_cons, List.not_mem_nil, or_false, false_or, or_true, true_or, itemsOf, Option.bind_some, compGo, turnD_tt, o_len, o_lens, o_sub, o_neg, o_addi, o_startswith, o_endswith, le_lim, lt_lim, List.length_cons, List.length_nil, Nat.zero_add, *]) <;> rfl))
  case a3 => clear hs; (((try simp (config := {failIfUnchanged := false}) only [ev1_eq, evT_eq, evI_eq, one_some, theItems_some, truthR_some, evq_const, evq_var, evq_op, evq_nil, evq_cons, evq_star, evq_and, evq_or, evq_not, evq_ite, evq_call, evq_tup, evq_list, evq_comp, evq_comp2, evq_comp3, evq_mapF, evq_seqI, evq_rangeI, evq_enumI, evq_setI, fzAll, ownAt, Mine.R.ds, Mine.R.fz, Mine.D.truth, List.map_cons, List.map_nil, List.getElem?_cons_zero, List.getElem?_cons_succ, List.getElem?_nil, Option.map_some, Option.map_none, List.set_cons_zero, List.set_cons_succ, List.getElem?_set, List.length_set, Nat.reduceLT, eq_str, ne_str, notin_str, in_str1, replace1, List.cons.injEq, and_true, and_false, true_and, false_and, Nat.reduceEqDiff, decide_true, decide_false, reduceCtorEq, Bool.not_true, Bool.not_false, Nat.reduceAdd, List.isEmpty_cons, List.isEmpty_nil, Nat.reduceLeDiff, Nat.zero_le, Option.isSome_some, Option.isSome_none, noApp_eq, List.all_cons, List.all_nil, appOK_val, appOK_own, appOK_unset, appOK_app, Bool.and_true, Bool.true_and, reduceIte, List.mem_cons, List.not_mem_nil, or_false, false_or, or_true, true_or, itemsOf, Option.bind_some, compGo, turnD_tt, o_len, o_lens, o_sub, o_neg, o_addi, o_startswith, o_endswith, le_lim, lt_lim, List.length_cons, List.length_nil, Nat.zero_add, *]) <;> rfl))
  case a4 => clear hs; (((try simp (config := {failIfUnchanged := false}) only [ev1_eq, evT_eq, evI_eq, one_some, theItems_some, truthR_some, evq_const, evq_var, evq_op, evq_nil, evq_cons, evq_star, evq_and, evq_or, evq_not, evq_ite, evq_call, evq_tup, evq_list, evq_comp, evq_comp2, evq_comp3, evq_mapF, evq_seqI, evq_rangeI, evq_enumI, evq_setI, fzAll, ownAt, Mine.R.ds, Mine.R.fz, Mine.D.truth, List.map_cons, List.map_nil, List.getElem?_cons_zero, List.getElem?_cons_succ, List.getElem?_nil, Option.map_some, Option.map_none, List.set_cons_zero, List.set_cons_succ, List.getElem?_set, List.length_set, Nat.reduceLT, eq_str, ne_str, notin_str, in_str1, replace1, List.cons.injEq, and_true, and_false, true_and, false_and, Nat.reduceEqDiff, decide_true, decide_false, reduceCtorEq, Bool.not_true, Bool.not_false, Nat.reduceAdd, List.isEmpty_cons, List.isEmpty_nil, Nat.reduceLeDiff, Nat.zero_le, Option.isSome_some, Option.isSome_none, noApp_eq, List.all_cons, List.all_nil, appOK_val, appOK_own, appOK_unset, appOK_app, Bool.and_true, Bool.true_and, reduceIte, List.mem_cons, List.not_mem_nil, or_false, false_or, or_true, true_or, itemsOf, Option.bind_some, compGo, turnD_tt, o_len, o_lens, o_sub, o_neg, o_addi, o_startswith, o_endswith, le_lim, lt_lim, List.length_cons, List.length_nil, Nat.zero_add, *]) <;> rfl))
  case a5 => clear hs; (((try simp (config := {failIfUnchanged := false}) only [ev1_eq, evT_eq, evI_eq, one_some, theItems_some, truthR_some, evq_const, evq_var, evq_op, evq_nil, evq_cons, evq_star, evq_and, evq_or, evq_not, evq_ite, evq_call, evq_tup, evq_list, evq_comp, evq_comp2, evq_comp3, evq_mapF, evq_seqI, evq_rangeI, evq_enumI, evq_setI, fzAll, ownAt, Mine.R.ds, Mine.R.fz, Mine.D.truth, List.map_cons, List.map_nil, List.getElem?_cons_zero, List.getElem?_cons_succ, List.getElem?_nil, Option.map_some, Option.map_none, List.set_cons_zero, List.set_cons_succ, List.getElem?_set, List.length_set, Nat.reduceLT, eq_str, ne_str, notin_str, in_str1, replace1, List.cons.injEq, and_true, and_false, true_and, false_and, Nat.reduceEqDiff, decide_true, decide_false, reduceCtorEq, Bool.not_true, Bool.not_false, Nat.reduceAdd, List.isEmpty_cons, List.isEmpty_nil, Nat.reduceLeDiff, Nat.zero_le, Option.isSome_some, Option.isSome_none, noApp_eq, List.all_cons, List.all_nil, appOK_val, appOK_own, appOK_unset, appOK_app, Bool.and_true, Bool.true_and, reduceIte, List.mem_cons, List.not_mem_nil, or_false, false_or, or_true, true_or, itemsOf, Option.bind_some, compGo, turnD_tt, o_len, o_lens, o_sub, o_neg, o_addi, o_startswith, o_endswith, le_lim, lt_lim, List.length_cons, List.length_nil, Nat.zero_add, *]) <;> rfl))
  case a6 => clear hs; (((try simp (config := {failIfUnchanged := false}) only [ev1_eq, evT_eq, evI_eq, one_some, theItems_some, truthR_some, evq_const, evq_var, evq_op, evq_nil, evq_cons, evq_star, evq_and, evq_or, evq_not, evq_ite, evq_call, evq_tup, evq_list, evq_comp, evq_comp2, evq_comp3, evq_mapF, evq_seqI, evq_rangeI, evq_enumI, evq_setI, fzAll, ownAt, Mine.R.ds, Mine.R.fz, Mine.D.truth, List.map_cons, List.map_nil, List.getElem?_cons_zero, List.getElem?_cons_succ, List.getElem?_nil, Option.map_some, Option.map_none, List.set_cons_zero, List.set_cons_succ, List.getElem?_set, List.length_set, Nat.reduceLT, eq_str, ne_str, notin_str, in_str1, replace1, List.cons.injEq, and_true, and_false, true_and, false_and, Nat.reduceEqDiff, decide_true, decide_false, reduceCtorEq, Bool.not_true, Bool.not_false, Nat.reduceAdd, List.isEmpty_cons, List.isEmpty_nil, Nat.reduceLeDiff, Nat.zero_le, Option.isSome_some, Option.isSome_none, noApp_eq, List.all_cons, List.all_nil, appOK_val, appOK_own, appOK_unset, appOK_app, Bool.and_true, Bool.true_and, reduceIte, List.mem_cons, List.not_mem_nil, or_false, false_or, or_true, true_or, itemsOf, Option.bind_some, compGo, turnD_tt, o_len, o_lens, o_sub, o_neg, o_addi, o_startswith, o_endswith, le_lim, lt_lim, List.length_cons, List.length_nil, Nat.zero_add, *]) <;> rfl))
theorem star_fail {p : Nat} {r : List Nat} {R : List D} {K1 : D} (H : At name p r) (hc : c ∉ r) (hr : r.length ≤ 99998) (hl : R.length < lim) (hK : opF .index [PT, K] = some (.val (.tok 0))) (hK1 : opF .add [K, .int 1] = some (.val K1)) (hP : opF .index [PT, K1] = some (.val (.str e)))
    (he : opF .index [.str e, .int (-1)] = some (.val (.str [c]))) :
    ∃ ρ', ex cf lrW [.val PT, .val (.tok 0), .val (.str name), .own R, .val (P p 0), .val K, x6] = some (ρ', .ret .none) := by
  have hs := scan_run (cf := cf) (x1 := .val (.tok 0)) (x3 := .own R) (x6 := .val (P p 0)) hP he (v := []) (.inl rfl) r p (by simpa using H) hc 99999 (by omega)
  have h1 : opF .eq [P p r.length, .int (name.length : Int)] = some (.val (.bool true)) := by rw [eq_N H]; simp
  have h3 : opF .slice [.str name, P p 0, P p r.length] = some (.val (.str r)) := by
    rw [sl H (by omega) (by omega)]
    unfold cut; simp
  have h4 : opF .len [.str name] = some (.val (.int (name.length : Int))) := rfl
  have h5 : opF .is_ [.tok 0, .tok 0] = some (.val (.bool true)) := rfl
  unfold lrIC lrI at hs
  unfold lrW
  generalize (.int (name.length : Int) : D) = L at *
  generalize P p 0 = i at *
  generalize P p r.length = i1 at *
  refine ⟨_, R_seq (R_assign (d := i) rfl rfl) (R_next (R_seq (R_ite (t := true) ?a1 (R_tt (R_seq (R_assign (d := K1) ?a2 rfl) (R_next (R_seq (R_while hs) (R_next (R_seq (R_append (d := .str r) (l := R) ?a3 rfl hl rfl) (R_next R_skip)))))))) (R_next (R_seq (R_ite (t := true) ?a4 (R_tt (R_seq (R_ret (d := .none) rfl) R_out_ret))) R_out_ret))))⟩
  case a1 => clear hs; (((try simp (config := {failIfUnchanged := false}) only [ev1_eq, evT_eq, evI_eq, one_some, theItems_some, truthR_some, evq_const, evq_var, evq_op, evq_nil, evq_cons, evq_star, evq_and, evq_or, evq_not, evq_ite, evq_call, evq_tup, evq_list, evq_comp, evq_comp2, evq_comp3, evq_mapF, evq_seqI, evq_rangeI, evq_enumI, evq_setI, fzAll, ownAt, Mine.R.ds, Mine.R.fz, Mine.D.truth, List.map_cons, List.map_nil, List.getElem?_cons_zero, List.getElem?_cons_succ, List.getElem?_nil, Option.map_some, Option.map_none, List.set_cons_zero, List.set_cons_succ, List.getElem?_set, List.length_set, Nat.reduceLT, eq_str, ne_str, notin_str, in_str1, replace1, List.cons.injEq, and_true, and_false, true_and, false_and, Nat.reduceEqDiff, decide_true, decide_false, reduceCtorEq, Bool.not_true, Bool.not_false, Nat.reduceAdd, List.isEmpty_cons, List.isEmpty_nil, Nat.reduceLeDiff, Nat.zero_le, Option.isSome_some, Option.isSome_none, noApp_eq, List.all_cons, List.all_nil, appOK_val, appOK_own, appOK_unset, appOK_app, Bool.and_true, Bool.true_and, reduceIte, List.mem_cons, List.not_mem_nil, or_false, false_or, or_true, true_or, itemsOf, Option.bind_some, compGo, turnD_tt, o_len, o_lens, o_sub, o_neg, o_addi, o_startswith, o_endswith, le_lim, lt_lim, List.length_cons, List.length_nil, Nat.zero_add, *]) <;> rfl))
  case a2 => clear hs; (((try simp (config := {failIfUnchanged := false}) only [ev1_eq, evT_eq, evI_eq, one_some, theItems_some, truthR_some, evq_const, evq_var, evq_op, evq_nil, evq_cons, evq_star, evq_and, evq_or, evq_not, evq_ite, evq_call, evq_tup, evq_list, evq_comp, evq_comp2, evq_comp3, evq_mapF, evq_seqI, evq_rangeI, evq_enumI, evq_setI, fzAll, ownAt, Mine.R.ds, Mine.R.fz, Mine.D.truth, List.map_cons, List.map_nil, List.getElem?_cons_zero, List.getElem?_cons_succ, List.getElem?_nil, Option.map_some, Option.map_none, List.set_cons_zero, List.set_cons_succ, List.getElem?_set, List.length_set, Nat.reduceLT, eq_str, ne_str, notin_str, in_str1, replace1, List.cons.injEq, and_true, and_false, true_and, false_and, Nat.reduceEqDiff, decide_true, decide_false, reduceCtorEq, Bool.not_true, Bool.not_false, Nat.reduceAdd, List.isEmpty_cons, List.isEmpty_nil, Nat.reduceLeDiff, Nat.zero_le, Option.isSome_some, Option.isSome_none, noApp_eq, List.all_cons, List.all_nil, appOK_val, appOK_own, appOK_unset, appOK_app, Bool.and_true, Bool.true_and, reduceIte, List.mem_cons, List.not_mem_nil, or_false, false_or, or_true, true_or, itemsOf, Option.bind_some, compGo, turnD_tt, o_len, o_lens, o_sub, o_neg, o_addi, o_startswith, o_endswith, le_lim, lt_lim, List.length_cons, List.length_nil, Nat.zero_add, *]) <;> rfl))
  case a3 => clear hs; (((try simp (config := {failIfUnchanged := false}) only [ev1_eq, evT_eq, evI_eq, one_some, theItems_some, truthR_some, evq_const, evq_var, evq_op, evq_nil, evq_cons, evq_star, evq_and, evq_or, evq_not, evq_ite, evq_call, evq_tup, evq_list, evq_comp, evq_comp2, evq_comp3, evq_mapF, evq_seqI, evq_rangeI, evq_enumI, evq_setI, fzAll, ownAt, Mine.R.ds, Mine.R.fz, Mine.D.truth, List.map_cons, List.map_nil, List.getElem?_cons_zero, List.getElem?_cons_succ, List.getElem?_nil, Option.map_some, Option.map_none, List.set_cons_zero, List.set_cons_succ, List.getElem?_set, List.length_set, Nat.reduceLT, eq_str, ne_str, notin_str, in_str1, replace1, List.cons.injEq, and_true, and_false, true_and, false_and, Nat.reduceEqDiff, decide_true, decide_false, reduceCtorEq, Bool.not_true, Bool.not_false, Nat.reduceAdd, List.isEmpty_cons, List.isEmpty_nil, Nat.reduceLeDiff, Nat.zero_le, Option.isSome_some, Option.isSome_none, noApp_eq, List.all_cons, List.all_nil, appOK_val, appOK_own, appOK_unset, appOK_app, Bool.and_true, Bool.true_and, reduceIte, List.mem_cons, List.not_mem_nil, or_false, false_or, or_true, true_or, itemsOf, Option.bind_some, compGo, turnD_tt, o_len, o_lens, o_sub, o_neg, o_addi, o_startswith, o_endswith, le_lim, lt_lim, List.length_cons, List.length_nil, Nat.zero_add, *]) <;> rfl))
  case a4 => clear hs; (((try simp (config := {failIfUnchanged := false}) only [ev1_eq, evT_eq, evI_eq, one_some, theItems_some, truthR_some, evq_const, evq_var, evq_op, evq_nil, evq_cons, evq_star, evq_and, evq_or, evq_not, evq_ite, evq_call, evq_tup, evq_list, evq_comp, evq_comp2, evq_comp3, evq_mapF, evq_seqI, evq_rangeI, evq_enumI, evq_setI, fzAll, ownAt, Mine.R.ds, Mine.R.fz, Mine.D.truth, List.map_cons, List.map_nil, List.getElem?_cons_zero, List.getElem?_cons_succ, List.getElem?_nil, Option.map_some, Option.map_none, List.set_cons_zero, List.set_cons_succ, List.getElem?_set, List.length_set, Nat.reduceLT, eq_str, ne_str, notin_str, in_str1, replace1, List.cons.injEq, and_true, and_false, true_and, false_and, Nat.reduceEqDiff, decide_true, decide_false, reduceCtorEq, Bool.not_true, Bool.not_false, Nat.reduceAdd, List.isEmpty_cons, List.isEmpty_nil, Nat.reduceLeDiff, Nat.zero_le, Option.isSome_some, Option.isSome_none, noApp_eq, List.all_cons, List.all_nil, appOK_val, appOK_own, appOK_unset, appOK_app, Bool.and_true, Bool.true_and, reduceIte, List.mem_cons, List.not_mem_nil, or_false, false_or, or_true, true_or, itemsOf, Option.bind_some, compGo, turnD_tt, o_len, o_lens, o_sub, o_neg, o_addi, o_startswith, o_endswith, le_lim, lt_lim, List.length_cons, List.length_nil, Nat.zero_add, *]) <;> rfl))
end
end Mine
end P07ax
section P07bx
open PySem PySem.StrLaws PySem.Builtin PySem.Builtin.Str
namespace Mine
noncomputable def spl (m : Nat) : List Nat → Option (List Nat × List Nat)
  | [] => none
  | c :: u => if c = m then some ([], u) else (spl m u).map fun x => (c :: x.1, x.2)
theorem spl_none {m : Nat} : ∀ {u : List Nat}, spl m u = none → m ∉ u
  | [], _ => by simp
  | c :: u, h => by
    unfold spl at h
    split at h
    · cases h
    · rename_i hc
      have h' : spl m u = none := by cases q : spl m u <;> rw [q] at h <;> first | rfl | cases h
      simp only [List.mem_cons, not_or]
      exact ⟨fun e => hc e.symm, spl_none h'⟩
theorem spl_some {m : Nat} : ∀ {u r v : List Nat}, spl m u = some (r, v) → u = r ++ m :: v ∧ m ∉ r
  | [], _, _, h => by cases h
  | c :: u, r, v, h => by
    unfold spl at h
    split at h
    · rename_i hc
      cases h
      exact ⟨by rw [hc]; rfl, by simp⟩
    · rename_i hc
      obtain ⟨⟨r', v'⟩, h', e⟩ := Option.map_eq_some_iff.mp h
      cases e
      obtain ⟨a, b⟩ := spl_some h'
      refine ⟨by rw [a]; rfl, ?_⟩
      simp only [List.mem_cons, not_or]
      exact ⟨fun e => hc e.symm, b⟩
theorem spl_cons {m c : Nat} {u : List Nat} : spl m (c :: u) = if c = m then some ([], u) else (spl m u).map fun x => (c :: x.1, x.2) := by rw [spl]
theorem spl_hit {m : Nat} {w : List Nat} : ∀ {r : List Nat}, m ∉ r → spl m (r ++ m :: w) = some (r, w)
  | [], _ => by rw [List.nil_append, spl_cons, if_pos rfl]
  | d :: r, h => by
    simp only [List.mem_cons, not_or] at h
    rw [List.cons_append, spl_cons, if_neg fun e => h.1 e.symm, spl_hit h.2]; rfl
theorem spl_miss {m c : Nat} {w : List Nat} (hc : c ≠ m) : ∀ {r : List Nat}, m ∉ r → spl m (r ++ c :: w) = (spl m w).map fun x => (r ++ c :: x.1, x.2)
  | [], _ => by rw [List.nil_append, spl_cons, if_neg hc]; rfl
  | d :: r, h => by
    simp only [List.mem_cons, not_or] at h
    rw [List.cons_append, spl_cons, if_neg fun e => h.1 e.symm, spl_miss hc h.2]
    cases spl m w <;> rfl
noncomputable def runsGo : List Nat → List Nat → List (List Nat) → Option (List (List Nat))
  | [], u, acc => if u = [] then some acc else none
  | m :: ms, u, acc => match spl m u with
    | none => none
    | some x => runsGo ms x.2 (acc ++ [x.1])
theorem rg_nil {u : List Nat} {acc : List (List Nat)} : runsGo [] u acc = if u = [] then some acc else none := by rw [runsGo]
theorem rg_some {m : Nat} {ms u r v : List Nat} {acc : List (List Nat)} (h : spl m u = some (r, v)) : runsGo (m :: ms) u acc = runsGo ms v (acc ++ [r]) := by rw [runsGo, h]
theorem rg_none {m : Nat} {ms u : List Nat} {acc : List (List Nat)} (h : spl m u = none) : runsGo (m :: ms) u acc = none := by rw [runsGo, h]
theorem spl_end {m c : Nat} {r : List Nat} (hr : m ∉ r) (hc : c ≠ m) : spl m (r ++ [c]) = none := by rw [spl_miss hc hr]; rfl
theorem rg_two {m m' c : Nat} {r : List Nat} {acc : List (List Nat)} (hr : m ∉ r) : runsGo [m, m'] (r ++ [c]) acc = none := by
  by_cases h : c = m
  · subst h; rw [rg_some (spl_hit hr), rg_none rfl]
  · rw [rg_none (spl_end hr h)]
theorem runs_same {m1 m2 m3 c1 c2 c3 : Nat} {r0 r1 r2 : List Nat} (h1 : m1 ∉ r0 ∧ m1 ∉ r1 ∧ m1 ∉ r2) (h2 : m2 ∉ r1 ∧ m2 ∉ r2) (h3 : m3 ∉ r2) :
    runsGo [m1, m2, m3] (r0 ++ c1 :: (r1 ++ c2 :: (r2 ++ [c3]))) [] = if c1 = m1 ∧ c2 = m2 ∧ c3 = m3 then some [r0, r1, r2] else none := by
  by_cases e1 : c1 = m1
  · subst e1
    rw [rg_some (spl_hit h1.1)]
    by_cases e2 : c2 = m2
    · subst e2
      rw [rg_some (spl_hit h2.1)]
      by_cases e3 : c3 = m3
      · subst e3
        rw [rg_some (spl_hit h3), rg_nil, if_pos rfl, if_pos ⟨rfl, rfl, rfl⟩]; rfl
      · rw [rg_none (spl_end h3 e3), if_neg fun h => e3 h.2.2]
    · rw [if_neg fun h => e2 h.2.1]
      cases q : spl m2 (r2 ++ [c3]) with
      | none => rw [rg_none (by rw [spl_miss e2 h2.1, q]; rfl)]
      | some x =>
        have hx : x.2 = [] := by
          by_cases e3 : c3 = m2
          · subst e3; rw [spl_hit h2.2] at q; cases q; rfl
          · rw [spl_end h2.2 e3] at q; cases q
        rw [rg_some (r := r1 ++ c2 :: x.1) (v := x.2) (by rw [spl_miss e2 h2.1, q]; rfl), hx, rg_none rfl]
  · rw [if_neg fun h => e1 h.1]
    by_cases e2 : c2 = m1
    · subst e2
      rw [rg_some (r := r0 ++ c1 :: r1) (v := r2 ++ [c3]) (by rw [spl_miss e1 h1.1, spl_hit h1.2.1]; rfl), rg_two h2.2]
    · by_cases e3 : c3 = m1
      · subst e3
        rw [rg_some (r := r0 ++ c1 :: (r1 ++ c2 :: r2)) (v := []) (by rw [spl_miss e1 h1.1, spl_miss e2 h1.2.1, spl_hit h1.2.2]; rfl), rg_none rfl]
      · rw [rg_none (by rw [spl_miss e1 h1.1, spl_miss e2 h1.2.1, spl_end h1.2.2 e3]; rfl)]
section
variable {cf : Nat → List D → Option D} {PT K K1 K2 : D} {name : List Nat} {x6 : Slot} {e : List Nat} {c : Nat}
theorem lrC_ev {N7 : D} {b : Bool} {x1 x2 x3 x4 : Slot} (h1 : opF .len [PT] = some (.val N7)) (h2 : opF .lt [K, N7] = some (.val (.bool b))) : evT cf lrC [.val PT, x1, x2, x3, x4, .val K, x6] = some b := by
  unfold lrC
  (((try simp (config := {failIfUnchanged := false}) only [ev1_eq, evT_eq, evI_eq, one_some, theItems_some, truthR_some, evq_const, evq_var, evq_op, evq_nil, evq_cons, evq_star, evq_and, evq_or, evq_not, evq_ite, evq_call, evq_tup, evq_list, evq_comp, evq_comp2, evq_comp3, evq_mapF, evq_seqI, evq_rangeI, evq_enumI, evq_setI, fzAll, ownAt, Mine.R.ds, Mine.R.fz, Mine.D.truth, List.map_cons, List.map_nil, List.getElem?_cons_zero, List.getElem?_cons_succ, List.getElem?_nil, Option.map_some, Option.map_none, List.set_cons_zero, List.set_cons_succ, List.getElem?_set, List.length_set, Nat.reduceLT, eq_str, ne_str, notin_str, in_str1, replace1, List.cons.injEq, and_true, and_false, true_and, false_and, Nat.reduceEqDiff, decide_true, decide_false, reduceCtorEq, Bool.not_true, Bool.not_false, Nat.reduceAdd, List.isEmpty_cons, List.isEmpty_nil, Nat.reduceLeDiff, Nat.zero_le, Option.isSome_some, Option.isSome_none, noApp_eq, List.all_cons, List.all_nil, appOK_val, appOK_own, appOK_unset, appOK_app, Bool.and_true, Bool.true_and, reduceIte, List.mem_cons, List.not_mem_nil, or_false, false_or, or_true, true_or, itemsOf, Option.bind_some, compGo, turnD_tt, o_len, o_lens, o_sub, o_neg, o_addi, o_startswith, o_endswith, le_lim, lt_lim, List.length_cons, List.length_nil, Nat.zero_add, *]) <;> rfl))
inductive StepR (cf : Nat → List D → Option D) (PT K K2 : D) (name u : List Nat) (p c fuel : Nat) (R : List D) (x6 : Slot) : Option (List Slot × Out) → Prop
  | no {res ρ'} : spl c u = none → res = some (ρ', .ret .none) → StepR cf PT K K2 name u p c fuel R x6 res
  | yes {res r v} : spl c u = some (r, v) → At name (p + (r.length + 1)) v → (res = whileGo (evT cf lrC) (ex cf lrW) fuel [.val PT, .val (.tok 0), .val (.str name), .own (R ++ [.str r]), .val (P (p + (r.length + 1)) 0), .val K2, .val (P p 0)]) → StepR cf PT K K2 name u p c fuel R x6 res
theorem loop_step {N7 : D} {p fuel : Nat} {u : List Nat} {R : List D} (H : At name p u) (hu : u.length ≤ 99998) (hl : R.length < lim) (hn : opF .len [PT] = some (.val N7)) (hlt : opF .lt [K, N7] = some (.val (.bool true))) (hK : opF .index [PT, K] = some (.val (.tok 0))) (hK1 : opF .add [K, .int 1] = some (.val K1))
    (hP : opF .index [PT, K1] = some (.val (.str e))) (he : opF .index [.str e, .int (-1)] = some (.val (.str [c]))) (hK2 : opF .add [K1, .int 1] = some (.val K2)) :
    StepR cf PT K K2 name u p c fuel R x6 (whileGo (evT cf lrC) (ex cf lrW) (fuel + 1) [.val PT, .val (.tok 0), .val (.str name), .own R, .val (P p 0), .val K, x6]) := by
  cases q : spl c u with
  | none =>
    obtain ⟨ρ', h⟩ := star_fail (cf := cf) (x6 := x6) H (spl_none q) hu hl hK hK1 hP he
    exact .no q (R_whileGo (t := true) (lrC_ev hn hlt) (R_wGo h R_wRet))
  | some x =>
    obtain ⟨r, v⟩ := x
    obtain ⟨rfl, hc⟩ := spl_some q
    have h := star_turn (cf := cf) (x6 := x6) (R := R) H hc (by simp at hu; omega) hl hK hK1 hP he hK2
    have H2 := H.skip (k := r.length + 1) (by simp)
    have e2 : (r ++ c :: v).drop (r.length + 1) = v := by rw [← List.drop_drop, List.drop_left]; rfl
    rw [e2] at H2
    refine .yes q H2 (R_whileGo (t := true) (lrC_ev hn hlt) (R_wGo h (R_wNext ?_)))
    rw [P_skip]
theorem esc_last (c : Nat) : opF .index [.str (esc c), .int (-1)] = some (.val (.str [c])) := by
  unfold esc
  split
  · exact o_strlast (t := [92])
  · exact o_strlast (t := [])
end
noncomputable def parts7 (m0 m1 m2 m3 : Nat) : D := .list [.str (esc m0), .tok 0, .str (esc m1), .tok 0, .str (esc m2), .tok 0, .str (esc m3)]
noncomputable def runsP (m0 m1 m2 m3 : Nat) : List Nat → Option (List (List Nat))
  | [] => none
  | d :: u => if d = m0 then runsGo [m1, m2, m3] u [] else none
noncomputable def runsD : Option (List (List Nat)) → D
  | none => .none
  | some l => .list (l.map .str)
theorem runs_ok (m : Nat) {m0 m1 m2 m3 d : Nat} {u : List Nat} (hu : u.length ≤ 9999) : callF fns07 (m + 1) 31 [parts7 m0 m1 m2 m3, .tok 0, .str (d :: u)] = some (runsD (runsP m0 m1 m2 m3 (d :: u))) := by
  refine C_call (fn := fn_law_runs) rfl (ρ := [.val (parts7 m0 m1 m2 m3), .val (.tok 0), .val (.str (d :: u)), .unset, .unset, .unset, .unset]) rfl ?_
  show ∃ ρ', ex (callF fns07 m) s_law_runs _ = _
  generalize callF fns07 m = cf
  have H0 : At (d :: u) 0 (d :: u) := ⟨rfl, by simp, by simp; omega⟩
  have hn : opF .len [parts7 m0 m1 m2 m3] = some (.val (.int 7)) := rfl
  have key : ∃ ρ' o, whileGo (evT cf lrC) (ex cf lrW) (99999 + 1) [.val (parts7 m0 m1 m2 m3), .val (.tok 0), .val (.str (d :: u)), .own [], .val (P 0 0), .val (.int 0), .unset] = some (ρ', o) ∧
      ((o = .ret .none ∧ runsP m0 m1 m2 m3 (d :: u) = none) ∨ (o = .next ∧ ∃ R : List (List Nat), ∃ x6 p v, At (d :: u) p v ∧ ρ' = [.val (parts7 m0 m1 m2 m3), .val (.tok 0), .val (.str (d :: u)), .own (R.map .str), .val (P p 0), .val (.int 7), x6] ∧ runsP m0 m1 m2 m3 (d :: u) = if v = [] then some R else none)) := by
    have h0 := mark_turn (cf := cf) (x6 := .unset) (R := []) (K1 := .int 1) H0 (PT := parts7 m0 m1 m2 m3) (K := .int 0) rfl (esc_last m0) rfl
    have t0 : evT cf lrC [.val (parts7 m0 m1 m2 m3), .val (.tok 0), .val (.str (d :: u)), .own [], .val (P 0 0), .val (.int 0), .unset] = some true := lrC_ev hn rfl
    by_cases hd : d = m0
    · simp only [if_pos hd] at h0
      have H1 : At (d :: u) 1 u := H0.skip (k := 1) (by simp)
      have hP : runsP m0 m1 m2 m3 (d :: u) = runsGo [m1, m2, m3] u [] := if_pos hd
      rw [hP]
      have s1 := loop_step (cf := cf) (PT := parts7 m0 m1 m2 m3) (K := .int 1) (K1 := .int 2) (K2 := .int 3) (x6 := .val (P 0 0)) (R := []) (fuel := 99998) H1 (by omega) (by decide) hn rfl rfl rfl rfl (esc_last m1) rfl
      have g0 := R_whileGo (n := 99999) (t := true) t0 (R_wGo h0 (R_wNext rfl))
      rw [← P_skip (p := 0) (k := 1)] at g0
      cases s1 with
      | no q e => exact ⟨_, _, g0.trans e, .inl ⟨rfl, rg_none q⟩⟩
      | @yes r1 v1 q1 H2 e1 =>
      have s2 := loop_step (cf := cf) (PT := parts7 m0 m1 m2 m3) (K := .int 3) (K1 := .int 4) (K2 := .int 5) (x6 := .val (P 1 0)) (R := [] ++ [.str r1]) (fuel := 99997) H2 (by have := (spl_some q1).1; rw [this] at hu; simp at hu; omega) (by simp [lim]) hn rfl rfl rfl rfl (esc_last m2) rfl
      have l1 : v1.length ≤ 9999 := by have := (spl_some q1).1; rw [this] at hu; simp at hu; omega
      cases s2 with
      | no q e => exact ⟨_, _, g0.trans (e1.trans e), .inl ⟨rfl, (rg_some q1).trans (rg_none q)⟩⟩
      | @yes r2 v2 q2 H3 e2 =>
      have l2 : v2.length ≤ 9999 := by have := (spl_some q2).1; rw [this] at l1; simp at l1; omega
      have s3 := loop_step (cf := cf) (PT := parts7 m0 m1 m2 m3) (K := .int 5) (K1 := .int 6) (K2 := .int 7) (x6 := .val (P (1 + (r1.length + 1)) 0)) (R := [] ++ [.str r1] ++ [.str r2]) (fuel := 99996) H3 (by omega) (by simp [lim]) hn rfl rfl rfl rfl (esc_last m3) rfl
      cases s3 with
      | no q e => exact ⟨_, _, g0.trans (e1.trans (e2.trans e)), .inl ⟨rfl, (rg_some q1).trans ((rg_some q2).trans (rg_none q))⟩⟩
      | @yes r3 v3 q3 H4 e3 =>
      refine ⟨_, _, g0.trans (e1.trans (e2.trans (e3.trans (R_whileGo (t := false) (lrC_ev hn rfl) R_wDone)))), .inr ⟨rfl, [r1, r2, r3], _, _, v3, H4, rfl, ?_⟩⟩
      exact (rg_some q1).trans ((rg_some q2).trans ((rg_some q3).trans rg_nil))
    · simp only [if_neg hd] at h0
      exact ⟨_, _, R_whileGo (t := true) t0 (R_wGo h0 R_wRet), .inl ⟨rfl, if_neg hd⟩⟩
  obtain ⟨ρ', o, h, hh⟩ := key
  unfold lrC lrW at h
  unfold s_law_runs
  rcases hh with ⟨rfl, e⟩ | ⟨rfl, R, x6, p, v, Hv, rfl, e⟩
  · rw [e]
    exact ⟨_, R_seq (R_assignO (l := []) rfl rfl rfl) (R_next (R_seq (R_assign (d := .int 0) rfl rfl) (R_next (R_seq (R_assign (d := .int 0) rfl rfl) (R_next (R_seq (R_while h) R_out_ret))))))⟩
  · rw [e]
    have h1 : opF .eq [P p 0, .int ((d :: u).length : Int)] = some (.val (.bool (decide (0 = v.length)))) := eq_N Hv 0
    have h4 : opF .len [.str (d :: u)] = some (.val (.int ((d :: u).length : Int))) := rfl
    clear H0 hu e
    generalize (.int ((d :: u).length : Int) : D) = L at *
    generalize d :: u = name at *
    refine ⟨_, R_seq (R_assignO (l := []) rfl rfl rfl) (R_next (R_seq (R_assign (d := .int 0) rfl rfl) (R_next (R_seq (R_assign (d := .int 0) rfl rfl) (R_next (R_seq (R_while h) (R_next (R_seq (R_seq (R_fz (l := R.map .str) rfl rfl) (R_next (R_ret ?ret))) R_out_ret))))))))⟩
    case ret =>
      clear h
      generalize P p 0 = i at *
      cases v with
      | nil =>
        replace h1 : opF .eq [i, L] = some (.val (.bool true)) := h1
        simp only [if_true]
        unfold runsD
        (((try simp (config := {failIfUnchanged := false}) only [ev1_eq, evT_eq, evI_eq, one_some, theItems_some, truthR_some, evq_const, evq_var, evq_op, evq_nil, evq_cons, evq_star, evq_and, evq_or, evq_not, evq_ite, evq_call, evq_tup, evq_list, evq_comp, evq_comp2, evq_comp3, evq_mapF, evq_seqI, evq_rangeI, evq_enumI, evq_setI, fzAll, ownAt, Mine.R.ds, Mine.R.fz, Mine.D.truth, List.map_cons, List.map_nil, List.getElem?_cons_zero, List.getElem?_cons_succ, List.getElem?_nil, Option.map_some, Option.map_none, List.set_cons_zero, List.set_cons_succ, List.getElem?_set, List.length_set, Nat.reduceLT, eq_str, ne_str, notin_str, in_str1, replace1, List.cons.injEq, and_true, and_false, true_and, false_and, Nat.reduceEqDiff, decide_true, decide_false, reduceCtorEq, Bool.not_true, Bool.not_false, Nat.reduceAdd, List.isEmpty_cons, List.isEmpty_nil, Nat.reduceLeDiff, Nat.zero_le, Option.isSome_some, Option.isSome_none, noApp_eq, List.all_cons, List.all_nil, appOK_val, appOK_own, appOK_unset, appOK_app, Bool.and_true, Bool.true_and, reduceIte, List.mem_cons, List.not_mem_nil, or_false, false_or, or_true, true_or, itemsOf, Option.bind_some, compGo, turnD_tt, o_len, o_lens, o_sub, o_neg, o_addi, o_startswith, o_endswith, le_lim, lt_lim, List.length_cons, List.length_nil, Nat.zero_add, *]) <;> rfl))
      | cons a v =>
        replace h1 : opF .eq [i, L] = some (.val (.bool false)) := by rw [h1]; simp
        simp only [if_neg (List.cons_ne_nil a v)]
        unfold runsD
        (((try simp (config := {failIfUnchanged := false}) only [ev1_eq, evT_eq, evI_eq, one_some, theItems_some, truthR_some, evq_const, evq_var, evq_op, evq_nil, evq_cons, evq_star, evq_and, evq_or, evq_not, evq_ite, evq_call, evq_tup, evq_list, evq_comp, evq_comp2, evq_comp3, evq_mapF, evq_seqI, evq_rangeI, evq_enumI, evq_setI, fzAll, ownAt, Mine.R.ds, Mine.R.fz, Mine.D.truth, List.map_cons, List.map_nil, List.getElem?_cons_zero, List.getElem?_cons_succ, List.getElem?_nil, Option.map_some, Option.map_none, List.set_cons_zero, List.set_cons_succ, List.getElem?_set, List.length_set, Nat.reduceLT, eq_str, ne_str, notin_str, in_str1, replace1, List.cons.injEq, and_true, and_false, true_and, false_and, Nat.reduceEqDiff, decide_true, decide_false, reduceCtorEq, Bool.not_true, Bool.not_false, Nat.reduceAdd, List.isEmpty_cons, List.isEmpty_nil, Nat.reduceLeDiff, Nat.zero_le, Option.isSome_some, Option.isSome_none, noApp_eq, List.all_cons, List.all_nil, appOK_val, appOK_own, appOK_unset, appOK_app, Bool.and_true, Bool.true_and, reduceIte, List.mem_cons, List.not_mem_nil, or_false, false_or, or_true, true_or, itemsOf, Option.bind_some, compGo, turnD_tt, o_len, o_lens, o_sub, o_neg, o_addi, o_startswith, o_endswith, le_lim, lt_lim, List.length_cons, List.length_nil, Nat.zero_add, *]) <;> rfl))
end Mine
end P07bx
section P07cx
open PySem PySem.StrLaws PySem.Builtin PySem.Builtin.Str
namespace Mine
noncomputable def laidT (m0 m1 m2 m3 r0 r1 r2 : List Nat) : List Nat := m0 ++ r0 ++ m1 ++ r1 ++ m2 ++ r2 ++ m3
theorem laid_ok (m : Nat) {m0 m1 m2 m3 r0 r1 r2 : List Nat} (hl : (laidT m0 m1 m2 m3 r0 r1 r2).length ≤ 1000) :
    callF fns07 (m + 1) 32 [.list [.str m0, .str m1, .str m2, .str m3], .list [.str r0, .str r1, .str r2]] = some (.str (laidT m0 m1 m2 m3 r0 r1 r2)) := by
  refine C_call (fn := fn_law_laid) rfl (ρ := [.val (.list [.str m0, .str m1, .str m2, .str m3]), .val (.list [.str r0, .str r1, .str r2]), .unset, .unset]) rfl ?_
  show ∃ ρ', ex (callF fns07 m) s_law_laid _ = _
  generalize callF fns07 m = cf
  unfold laidT at hl ⊢
  simp only [List.length_append] at hl
  have turn : ∀ {k k1 : D} {A B : D} {o r w : List Nat} {x3 : Slot}, opF .index [B, k] = some (.val (.str r)) → opF .add [k, .int 1] = some (.val k1) → opF .index [A, k1] = some (.val (.str w)) → o.length + r.length + w.length ≤ 1000 →
      ex cf llB [.val A, .val B, .val (.str o), .val k] = some ([.val A, .val B, .val (.str (o ++ r ++ w)), .val k], .next) := by
    intro k k1 A B o r w x3 h1 h2 h3 h4
    have a1 : opF .add [.str o, .str r] = some (.val (.str (o ++ r))) := o_addstr (by unfold lim; omega)
    have a2 : opF .add [.str (o ++ r), .str w] = some (.val (.str (o ++ r ++ w))) := o_addstr (by unfold lim; simp; omega)
    unfold llB
    generalize o ++ r ++ w = orw at *
    generalize o ++ r = or at *
    refine R_seq (R_assign (d := .str orw) ?_ rfl) (R_next R_skip)
    (((try simp (config := {failIfUnchanged := false}) only [ev1_eq, evT_eq, evI_eq, one_some, theItems_some, truthR_some, evq_const, evq_var, evq_op, evq_nil, evq_cons, evq_star, evq_and, evq_or, evq_not, evq_ite, evq_call, evq_tup, evq_list, evq_comp, evq_comp2, evq_comp3, evq_mapF, evq_seqI, evq_rangeI, evq_enumI, evq_setI, fzAll, ownAt, Mine.R.ds, Mine.R.fz, Mine.D.truth, List.map_cons, List.map_nil, List.getElem?_cons_zero, List.getElem?_cons_succ, List.getElem?_nil, Option.map_some, Option.map_none, List.set_cons_zero, List.set_cons_succ, List.getElem?_set, List.length_set, Nat.reduceLT, eq_str, ne_str, notin_str, in_str1, replace1, List.cons.injEq, and_true, and_false, true_and, false_and, Nat.reduceEqDiff, decide_true, decide_false, reduceCtorEq, Bool.not_true, Bool.not_false, Nat.reduceAdd, List.isEmpty_cons, List.isEmpty_nil, Nat.reduceLeDiff, Nat.zero_le, Option.isSome_some, Option.isSome_none, noApp_eq, List.all_cons, List.all_nil, appOK_val, appOK_own, appOK_unset, appOK_app, Bool.and_true, Bool.true_and, reduceIte, List.mem_cons, List.not_mem_nil, or_false, false_or, or_true, true_or, itemsOf, Option.bind_some, compGo, turnD_tt, o_len, o_lens, o_sub, o_neg, o_addi, o_startswith, o_endswith, le_lim, lt_lim, List.length_cons, List.length_nil, Nat.zero_add, *]) <;> rfl))
  have lp : ∃ j, forGo (put1 3) (ex cf llB) [.int 0, .int 1, .int 2] [.val (.list [.str m0, .str m1, .str m2, .str m3]), .val (.list [.str r0, .str r1, .str r2]), .val (.str m0), .unset] =
      some ([.val (.list [.str m0, .str m1, .str m2, .str m3]), .val (.list [.str r0, .str r1, .str r2]), .val (.str (m0 ++ r0 ++ m1 ++ r1 ++ m2 ++ r2 ++ m3)), j], .next) :=
    ⟨_, R_forCons (st := put1 3) rfl (turn (x3 := .unset) (r := r0) (w := m1) rfl rfl rfl (by omega)) (R_fNext (R_forCons (st := put1 3) rfl (turn (x3 := .unset) (r := r1) (w := m2) rfl rfl rfl (by simp; omega)) (R_fNext
      (R_forCons (st := put1 3) rfl (turn (x3 := .unset) (r := r2) (w := m3) rfl rfl rfl (by simp; omega)) (R_fNext R_forNil)))))⟩
  obtain ⟨j, lp⟩ := lp
  unfold llB at lp
  unfold s_law_laid
  exact ⟨_, R_seq (R_assign (d := .str m0) rfl rfl) (R_next (R_seq (R_for (l := [.int 0, .int 1, .int 2]) rfl lp) (R_next (R_seq (R_ret rfl) R_out_ret))))⟩
theorem basename_at {fns : Nat → Option Fn} (h2 : fns 2 = some fn_fspath) (h3 : fns 3 = some fn_get_sep) (h8 : fns 8 = some fn_basename) (m : Nat) {x y : List Nat} (h : 47 ∉ y) (hl : x.length < 1000000) : callF fns (m + 2) 8 [.str (x ++ 47 :: y)] = some (.str y) := by
  refine C_call h8 (ρ := [.val (.str (x ++ 47 :: y)), .unset, .unset]) rfl ?_
  show ∃ ρ', ex (callF fns (m + 1)) s_basename _ = _
  have f1 := fspath_ok h2 m (x ++ 47 :: y)
  have f2 := get_sep_ok h3 m (x ++ 47 :: y)
  have r1 := o_rfind_at (x := x) (y := y) (c := 47) h
  have r2 : opF .add [.int (x.length : Int), .int 1] = some (.val (.int ((x ++ [47]).length : Int))) := by rw [o_addi]; simp
  have r3 := o_from (x := x ++ [47]) (y := y) (by simp; omega)
  rw [show x ++ [47] ++ y = x ++ 47 :: y by simp] at r3
  generalize x ++ 47 :: y = l at *
  generalize (.int (x.length : Int) : D) = i at *
  generalize (.int ((x ++ [47]).length : Int) : D) = j at *
  unfold s_basename
  refine ⟨?w1, ?h1⟩
  case h1 => (repeat' (first | with_reducible (first | exact R_skip | exact R_brk | exact R_cont | apply R_seq | exact R_out_brk | exact R_out_cont | exact R_out_ret | refine R_next ?_ | apply R_ite | refine R_tt ?_ | refine R_ff ?_ | apply R_while | apply R_whileGo | exact R_wDone | apply R_wGo | refine R_wNext ?_ | refine R_wCont ?_ | exact R_wBrk | exact R_wRet | apply R_for | exact R_forNil | apply R_forCons | refine R_fNext ?_ | refine R_fCont ?_ | exact R_fBrk | exact R_fRet | apply R_assign | apply R_assign2 | apply R_appendVia | apply R_append | apply R_alias | apply R_ret | apply R_assignO | apply R_setItem | apply R_delItem | apply R_augItem | apply R_fz | apply R_aug) | (((try simp (config := {failIfUnchanged := false}) only [ev1_eq, evT_eq, evI_eq, one_some, theItems_some, truthR_some, evq_const, evq_var, evq_op, evq_nil, evq_cons, evq_star, evq_and, evq_or, evq_not, evq_ite, evq_call, evq_tup, evq_list, evq_comp, evq_comp2, evq_comp3, evq_mapF, evq_seqI, evq_rangeI, evq_enumI, evq_setI, fzAll, ownAt, Mine.R.ds, Mine.R.fz, Mine.D.truth, List.map_cons, List.map_nil, List.getElem?_cons_zero, List.getElem?_cons_succ, List.getElem?_nil, Option.map_some, Option.map_none, List.set_cons_zero, List.set_cons_succ, List.getElem?_set, List.length_set, Nat.reduceLT, eq_str, ne_str, notin_str, in_str1, replace1, List.cons.injEq, and_true, and_false, true_and, false_and, Nat.reduceEqDiff, decide_true, decide_false, reduceCtorEq, Bool.not_true, Bool.not_false, Nat.reduceAdd, List.isEmpty_cons, List.isEmpty_nil, Nat.reduceLeDiff, Nat.zero_le, Option.isSome_some, Option.isSome_none, noApp_eq, List.all_cons, List.all_nil, appOK_val, appOK_own, appOK_unset, appOK_app, Bool.and_true, Bool.true_and, reduceIte, List.mem_cons, List.not_mem_nil, or_false, false_or, or_true, true_or, itemsOf, Option.bind_some, compGo, turnD_tt, o_len, o_lens, o_sub, o_neg, o_addi, o_startswith, o_endswith, le_lim, lt_lim, List.length_cons, List.length_nil, Nat.zero_add, *]) <;> rfl)) | (show (_ : Nat) < lim; decide) | decide))
noncomputable def mk (k : Nat) : Nat := [45, 43, 95, 61].getD k 0
theorem tr256 (m : Nat) : (List.range 256).map (fun k => callF fns07 (m + 2) 1 [.str (laidT [mk (k / 64)] [mk (k / 16 % 4)] [mk (k / 4 % 4)] [mk (k % 4)] [42] [42] [42]), .tok 0, .str [46]]) =
    (List.range 256).map fun k => some (parts7 (mk (k / 64)) (mk (k / 16 % 4)) (mk (k / 4 % 4)) (mk (k % 4))) := by kernel_rfl
theorem tr_ok (m : Nat) {a b c d : Nat} (ha : a < 4) (hb : b < 4) (hc : c < 4) (hd : d < 4) : callF fns07 (m + 2) 1 [.str (laidT [mk a] [mk b] [mk c] [mk d] [42] [42] [42]), .tok 0, .str [46]] = some (parts7 (mk a) (mk b) (mk c) (mk d)) := by
  have h := congrArg (·[64 * a + 16 * b + 4 * c + d]?) (tr256 m)
  have hk : 64 * a + 16 * b + 4 * c + d < 256 := by omega
  simp only [List.getElem?_map, List.getElem?_range hk, Option.map_some, Option.some.injEq] at h
  have e1 : (64 * a + 16 * b + 4 * c + d) / 64 = a := by omega
  have e2 : (64 * a + 16 * b + 4 * c + d) / 16 % 4 = b := by omega
  have e3 : (64 * a + 16 * b + 4 * c + d) / 4 % 4 = c := by omega
  have e4 : (64 * a + 16 * b + 4 * c + d) % 4 = d := by omega
  rw [e1, e2, e3, e4] at h
  exact h
end Mine
end P07cx
section P07dx
open PySem PySem.StrLaws PySem.Builtin PySem.Builtin.Str
namespace Mine
noncomputable def fo (i : Nat) : List Nat := [[47], [47, 98], [47, 97, 46, 98, 47, 97], [47, 97, 46, 98, 47, 98], [47, 97, 46, 98, 47, 97, 46, 98]].getD i []
noncomputable def be (j : Nat) : List Nat := [[47], [47, 97], [47, 98], [47, 97, 47, 97], [47, 98, 47, 97], [47, 97, 47, 98], [47, 98, 47, 98]].getD j []
noncomputable def rlT : List (List (List Nat)) := [[[46], [46, 46], [46, 46], [46, 46, 47, 46, 46], [46, 46, 47, 46, 46], [46, 46, 47, 46, 46], [46, 46, 47, 46, 46]], [[98], [46, 46, 47, 98], [46], [46, 46, 47, 46, 46, 47, 98], [46, 46], [46, 46, 47, 46, 46, 47, 98], [46, 46]], [[97, 46, 98, 47, 97], [46, 46, 47, 97, 46, 98, 47, 97], [46, 46, 47, 97, 46, 98, 47, 97], [46, 46, 47, 46, 46, 47, 97, 46, 98, 47, 97], [46, 46, 47, 46, 46, 47, 97, 46, 98, 47, 97], [46, 46, 47, 46, 46, 47, 97, 46, 98, 47, 97], [46, 46, 47, 46, 46, 47, 97, 46, 98, 47, 97]], [[97, 46, 98, 47, 98], [46, 46, 47, 97, 46, 98, 47, 98], [46, 46, 47, 97, 46, 98, 47, 98], [46, 46, 47, 46, 46, 47, 97, 46, 98, 47, 98], [46, 46, 47, 46, 46, 47, 97, 46, 98, 47, 98], [46, 46, 47, 46, 46, 47, 97, 46, 98, 47, 98], [46, 46, 47, 46, 46, 47, 97, 46, 98, 47, 98]], [[97, 46, 98, 47, 97, 46, 98], [46, 46, 47, 97, 46, 98, 47, 97, 46, 98], [46, 46, 47, 97, 46, 98, 47, 97, 46, 98], [46, 46, 47, 46, 46, 47, 97, 46, 98, 47, 97, 46, 98], [46, 46, 47, 46, 46, 47, 97, 46, 98, 47, 97, 46, 98], [46, 46, 47, 46, 46, 47, 97, 46, 98, 47, 97, 46, 98], [46, 46, 47, 46, 46, 47, 97, 46, 98, 47, 97, 46, 98]]]
noncomputable def rl (i j : Nat) : List Nat := (rlT.getD i []).getD j []
noncomputable def wy (i j : Nat) : List Nat := join1 (be j) (rl i j)
theorem rel35 (m : Nat) : (List.range 35).map (fun k => callF fns07 (m + 6) 11 [.str (fo (k / 7)), .str (be (k % 7))]) = (List.range 35).map fun k => some (.str (rl (k / 7) (k % 7))) := by kernel_rfl
theorem way35 (m : Nat) : (List.range 35).map (fun k => callF fns07 (m + 2) 4 [.str (be (k % 7)), .str (rl (k / 7) (k % 7))]) = (List.range 35).map fun k => some (.str (wy (k / 7) (k % 7))) := by kernel_rfl
theorem nrm35 (m : Nat) : (List.range 35).map (fun k => callF fns07 (m + 4) 9 [.str (wy (k / 7) (k % 7))]) = (List.range 35).map fun k => some (.str (fo (k / 7))) := by kernel_rfl
theorem at35 {f g : Nat → Nat → Option D} (h : (List.range 35).map (fun k => f (k / 7) (k % 7)) = (List.range 35).map fun k => g (k / 7) (k % 7)) {i j : Nat} (hi : i < 5) (hj : j < 7) : f i j = g i j := by
  have h := congrArg (·[7 * i + j]?) h
  simp only [List.getElem?_map, List.getElem?_range (show 7 * i + j < 35 by omega), Option.map_some, Option.some.injEq] at h
  rwa [show (7 * i + j) / 7 = i by omega, show (7 * i + j) % 7 = j by omega] at h
theorem rel_ok (m : Nat) {i j : Nat} (hi : i < 5) (hj : j < 7) : callF fns07 (m + 6) 11 [.str (fo i), .str (be j)] = some (.str (rl i j)) := at35 (f := fun i j => callF fns07 (m + 6) 11 [.str (fo i), .str (be j)]) (g := fun i j => some (.str (rl i j))) (rel35 m) hi hj
theorem way_ok (m : Nat) {i j : Nat} (hi : i < 5) (hj : j < 7) : callF fns07 (m + 2) 4 [.str (be j), .str (rl i j)] = some (.str (wy i j)) := at35 (f := fun i j => callF fns07 (m + 2) 4 [.str (be j), .str (rl i j)]) (g := fun i j => some (.str (wy i j))) (way35 m) hi hj
theorem nrm_ok (m : Nat) {i j : Nat} (hi : i < 5) (hj : j < 7) : callF fns07 (m + 4) 9 [.str (wy i j)] = some (.str (fo i)) := at35 (f := fun i j => callF fns07 (m + 4) 9 [.str (wy i j)]) (g := fun i j => some (.str (fo i))) (nrm35 m) hi hj
inductive Fold : List Nat → List Nat → Prop
  | root : Fold [47] []
  | sub {x : List Nat} : x.getLast? ≠ some 47 → x ≠ [] → strip0 (x ++ [47]) = x → x.length ≤ 8 → Fold x x
theorem fo_fold {i : Nat} (h : i < 5) : ∃ x, Fold (fo i) x := by
  match i, h with
  | 0, _ => exact ⟨_, .root⟩
  | 1, _ => exact ⟨_, .sub (by decide) (by decide) (by decide) (by decide)⟩
  | 2, _ => exact ⟨_, .sub (by decide) (by decide) (by decide) (by decide)⟩
  | 3, _ => exact ⟨_, .sub (by decide) (by decide) (by decide) (by decide)⟩
  | 4, _ => exact ⟨_, .sub (by decide) (by decide) (by decide) (by decide)⟩
theorem be_fold {i : Nat} (h : i < 7) : ∃ x, Fold (be i) x := by
  match i, h with
  | 0, _ => exact ⟨_, .root⟩
  | 1, _ => exact ⟨_, .sub (by decide) (by decide) (by decide) (by decide)⟩
  | 2, _ => exact ⟨_, .sub (by decide) (by decide) (by decide) (by decide)⟩
  | 3, _ => exact ⟨_, .sub (by decide) (by decide) (by decide) (by decide)⟩
  | 4, _ => exact ⟨_, .sub (by decide) (by decide) (by decide) (by decide)⟩
  | 5, _ => exact ⟨_, .sub (by decide) (by decide) (by decide) (by decide)⟩
  | 6, _ => exact ⟨_, .sub (by decide) (by decide) (by decide) (by decide)⟩
theorem Fold.len {f x : List Nat} (h : Fold f x) : f.length ≤ 8 ∧ x.length ≤ 8 := by
  cases h with
  | root => decide
  | sub _ _ _ l => exact ⟨l, l⟩
theorem Fold.join {f x y : List Nat} (h : Fold f x) (hy : 47 ∉ y) (hl : y.length ≤ 1000) (m : Nat) : callF fns07 (m + 2) 4 [.str f, .str y] = some (.str (x ++ 47 :: y)) := by
  have hlen := h.len
  have e := join_ok (fns := fns07) rfl rfl rfl m (a := f) (bs := [y]) (by unfold lim lenS; simp; omega) (by simp [lim])
  have e2 : joinP f [y] = x ++ 47 :: y := by
    show join1 f y = _
    unfold join1
    have h0 : ¬ (y.head? = some 47) := fun q => hy (List.mem_of_head? q)
    cases h with
    | root => rw [if_neg (by rintro (q | q) <;> first | exact h0 q | cases q)]; rfl
    | sub a b _ _ => rw [if_neg (by rintro (q | q) <;> first | exact h0 q | exact b q), if_neg a]
  rw [e2] at e
  exact e
theorem Fold.dir {f x y : List Nat} (h : Fold f x) (hy : 47 ∉ y) (m : Nat) : callF fns07 (m + 2) 6 [.str (x ++ 47 :: y)] = some (.str f) := by
  rw [dirname_at (fns := fns07) rfl rfl rfl m hy (by have := h.len; omega)]
  cases h with
  | root => rfl
  | sub _ _ e _ => rw [e]
theorem Fold.base {f x y : List Nat} (h : Fold f x) (hy : 47 ∉ y) (m : Nat) : callF fns07 (m + 2) 8 [.str (x ++ 47 :: y)] = some (.str y) :=
  basename_at (fns := fns07) rfl rfl rfl m hy (by have := h.len; omega)
end Mine
end P07dx
section P07ex
open PySem PySem.StrLaws PySem.Builtin PySem.Builtin.Str
namespace Mine
noncomputable def l7F : X := (.op .add (.cons (.const (.str [47])) (.cons (.op .join (.cons (.const (.str [47])) (.cons (.comp 20 (.rangeI (.cons (.op .mod (.cons (.var 4) (.cons (.const (.int 3)) .nil))) .nil)) (.const (.bool true)) (.op .index (.cons (.tup (.cons (.const (.str [97])) (.cons (.const (.str [98])) (.cons (.const (.str [97, 46, 98])) .nil)))) (.cons (.op .mod (.cons (.op .fdiv (.cons (.var 4) (.cons (.op .pow (.cons (.const (.int 3)) (.cons (.var 20) .nil))) .nil))) (.cons (.const (.int 3)) .nil))) .nil)))) .nil))) .nil)))
noncomputable def l7M : X := (.comp 21 (.rangeI (.cons (.const (.int 4)) .nil)) (.const (.bool true)) (.op .index (.cons (.const (.str [45, 43, 95, 61])) (.cons (.op .mod (.cons (.op .fdiv (.cons (.var 4) (.cons (.op .pow (.cons (.const (.int 4)) (.cons (.var 21) .nil))) .nil))) (.cons (.const (.int 4)) .nil))) .nil))))
noncomputable def l7R : X := (.op .join (.cons (.const (.str [])) (.cons (.comp 22 (.rangeI (.cons (.op .mod (.cons (.var 4) (.cons (.const (.int 4)) .nil))) .nil)) (.const (.bool true)) (.op .index (.cons (.const (.str [97, 98])) (.cons (.op .mod (.cons (.op .fdiv (.cons (.var 4) (.cons (.op .pow (.cons (.const (.int 2)) (.cons (.var 22) .nil))) .nil))) (.cons (.const (.int 2)) .nil))) .nil)))) .nil)))
noncomputable def l7O : X := (.comp 23 (.rangeI (.cons (.const (.int 4)) .nil)) (.const (.bool true)) (.op .index (.cons (.const (.str [45, 43, 95, 61])) (.cons (.op .mod (.cons (.op .fdiv (.cons (.var 9) (.cons (.op .pow (.cons (.const (.int 4)) (.cons (.op .add (.cons (.var 23) (.cons (.var 11) .nil))) .nil))) .nil))) (.cons (.const (.int 4)) .nil))) .nil))))
noncomputable def l7B : X := (.op .add (.cons (.const (.str [47])) (.cons (.op .join (.cons (.const (.str [47])) (.cons (.comp 24 (.rangeI (.cons (.op .mod (.cons (.var 11) (.cons (.const (.int 3)) .nil))) .nil)) (.const (.bool true)) (.op .index (.cons (.const (.str [97, 98])) (.cons (.op .mod (.cons (.op .fdiv (.cons (.var 9) (.cons (.op .pow (.cons (.const (.int 2)) (.cons (.var 24) .nil))) .nil))) (.cons (.const (.int 2)) .nil))) .nil)))) .nil))) .nil)))
theorem o_pown {a b : Nat} (ha : a ≤ 16) (hb : b ≤ 64) : opF .pow [.int (a : Int), .int (b : Int)] = some (.val (.int ((a ^ b : Nat) : Int))) := by
  show (if 0 ≤ (b : Int) ∧ (b : Int) ≤ 64 ∧ 0 ≤ (a : Int) ∧ (a : Int) ≤ 16 then some (R.val (.int ((a : Int) ^ (b : Int).toNat))) else none) = _
  rw [if_pos ⟨by omega, by omega, by omega, by omega⟩, Int.toNat_natCast]
  push_cast
  rfl
section
variable {cf : Nat → List D → Option D} {ρ : List Slot}
theorem dig_ev {T Pw : X} {v b l e : Nat} {t w : D} (hb : 0 < b) (hb2 : b ≤ 16) (he : e ≤ 64) (hv : ρ[v]? = some (.val (.int (l : Int)))) (hT : ev cf T ρ = some [.val t]) (hP : ev cf Pw ρ = some [.val (.int (e : Int))])
    (hw : opF .index [t, .int ((l / b ^ e % b : Nat) : Int)] = some (.val w)) :
    ev cf (.op .index (.cons T (.cons (.op .mod (.cons (.op .fdiv (.cons (.var v) (.cons (.op .pow (.cons (.const (.int (b : Int))) (.cons Pw .nil))) .nil))) (.cons (.const (.int (b : Int))) .nil))) .nil))) ρ = some [.val w] := by
  have h1 := o_pown hb2 he
  have h2 := o_div (n := l) (k := b ^ e) (Nat.ne_of_gt (Nat.pow_pos hb))
  have h3 := o_mod (n := l / b ^ e) (k := b) (by omega)
  generalize (.int (l : Int) : D) = L at *
  generalize (.int ((l / b ^ e : Nat) : Int) : D) = L1 at *
  generalize (.int ((l / b ^ e % b : Nat) : Int) : D) = L2 at *
  generalize (.int ((b ^ e : Nat) : Int) : D) = BE at *
  generalize (.int (b : Int) : D) = B at *
  generalize (.int (e : Int) : D) = EE at *
  simp only [evq_op, evq_cons, evq_nil, evq_const, evq_var, hv, hT, hP, h1, h2, h3, hw, Option.map_some, List.map_cons, List.map_nil, R.ds]
theorem comp_signs {i : Nat} {it e : X} {S : List Nat} {items : List D} (hit : ev cf it ρ = some [.val (.list items)]) (hi : ∀ d ∈ items, ∃ k : Nat, d = .int (k : Int) ∧ k ≤ 4) (he : ∀ k : Nat, k ≤ 4 → ∃ c ∈ S, ev cf e (ρ.set i (.val (.int (k : Int)))) = some [.val (.str [c])]) :
    ∃ cs : List Nat, cs.length = items.length ∧ (∀ c ∈ cs, c ∈ S) ∧ ev cf (.comp i it (.const (.bool true)) e) ρ = some [.own (cs.map fun c => .str [c])] := by
  have key : ∀ its : List D, (∀ d ∈ its, ∃ k : Nat, d = .int (k : Int) ∧ k ≤ 4) → ∃ cs : List Nat, cs.length = its.length ∧ (∀ c ∈ cs, c ∈ S) ∧ compGo (fun d => turnD (ev cf (.const (.bool true)) (ρ.set i (.val d))) (ev cf e (ρ.set i (.val d)))) its = some (cs.map fun c => .str [c]) := by
    intro its
    induction its with
    | nil => intro _; exact ⟨[], rfl, fun _ h => (nomatch h), rfl⟩
    | cons d its ih =>
      intro h
      obtain ⟨cs, h1, h2, h3⟩ := ih fun d hd => h d (List.mem_cons_of_mem _ hd)
      obtain ⟨k, rfl, hk⟩ := h d List.mem_cons_self
      obtain ⟨c, hc, e1⟩ := he k hk
      refine ⟨c :: cs, by simp [h1], ?_, ?_⟩
      · intro x hx
        rcases List.mem_cons.mp hx with rfl | hx
        · exact hc
        · exact h2 x hx
      · unfold compGo
        rw [e1, h3]
        rfl
  obtain ⟨cs, h1, h2, h3⟩ := key items hi
  exact ⟨cs, h1, h2, comp_run hit h3⟩
theorem joinL_nil : ∀ cs : List Nat, joinL [] (cs.map fun c => [c]) = cs
  | [] => rfl
  | [c] => rfl
  | c :: d :: cs => by
    have := joinL_nil (d :: cs)
    show [c] ++ [] ++ joinL [] ((d :: cs).map fun c => [c]) = _
    rw [this]; rfl
theorem toStrs_map : ∀ ls : List (List Nat), toStrs (ls.map .str) = some ls
  | [] => rfl
  | l :: ls => by
    rw [List.map_cons]
    unfold toStrs
    rw [toStrs_map ls]; rfl
theorem o_join0 {cs : List Nat} (h : cs.length ≤ 1000) : opF .join [.str [], .list (cs.map fun c => .str [c])] = some (.val (.str cs)) := by
  show (match toStrs (cs.map fun c => .str [c]) with
    | some ls => if (joinL [] ls).length ≤ lim then some (R.val (.str (joinL [] ls))) else none
    | none => none) = _
  have e : (cs.map fun c => D.str [c]) = (cs.map fun c => [c]).map .str := by simp
  rw [e, toStrs_map]
  simp only
  rw [joinL_nil, if_pos (by unfold lim; omega)]
theorem range_items {n : Nat} (h : n ≤ 5) : ∀ d ∈ (List.range' 0 n).map (fun (k : Nat) => D.int (k : Int)), ∃ k : Nat, d = .int (k : Int) ∧ k ≤ 4 := by
  intro d hd
  obtain ⟨k, hk, rfl⟩ := List.mem_map.mp hd
  exact ⟨k, rfl, by have := (List.mem_range'_1.mp hk).2; omega⟩
theorem idx_ab {x : Nat} : ∃ c ∈ [97, 98], opF .index [.str [97, 98], .int ((x % 2 : Nat) : Int)] = some (.val (.str [c])) := by
  have : x % 2 < 2 := Nat.mod_lt _ (by decide)
  generalize x % 2 = y at *
  match y, this with
  | 0, _ => exact ⟨97, by decide, rfl⟩
  | 1, _ => exact ⟨98, by decide, rfl⟩
theorem idx_mk {x : Nat} : ∃ c ∈ [45, 43, 95, 61], opF .index [.str [45, 43, 95, 61], .int ((x % 4 : Nat) : Int)] = some (.val (.str [c])) := by
  have : x % 4 < 4 := Nat.mod_lt _ (by decide)
  generalize x % 4 = y at *
  match y, this with
  | 0, _ => exact ⟨45, by decide, rfl⟩
  | 1, _ => exact ⟨43, by decide, rfl⟩
  | 2, _ => exact ⟨95, by decide, rfl⟩
  | 3, _ => exact ⟨61, by decide, rfl⟩
theorem set_ne {i j : Nat} {s t : Slot} (h : j ≠ i) (g : ρ[j]? = some t) : (ρ.set i s)[j]? = some t := by rw [List.getElem?_set_ne (Ne.symm h)]; exact g
theorem set_eq {i : Nat} {s : Slot} (h : i < ρ.length) : (ρ.set i s)[i]? = some s := by rw [List.getElem?_set_self h]
theorem var_ev {i : Nat} {d : D} (g : ρ[i]? = some (.val d)) : ev cf (.var i) ρ = some [.val d] := by rw [evq_var, g]
theorem rng_mod {v l b : Nat} (hb : 0 < b) (hb2 : b ≤ 5) (g : ρ[v]? = some (.val (.int (l : Int)))) : ev cf (.rangeI (.cons (.op .mod (.cons (.var v) (.cons (.const (.int (b : Int))) .nil))) .nil)) ρ = some [.val (.list ((List.range' 0 (l % b)).map fun (k : Nat) => .int (k : Int)))] := by
  have h3 := o_mod (n := l) (k := b) (by omega)
  have hl : l % b < b := Nat.mod_lt _ hb
  have h4 := range1_eq (n := l % b) (by omega)
  generalize (.int (l : Int) : D) = L at *
  generalize (.int ((l % b : Nat) : Int) : D) = L1 at *
  generalize (.int (b : Int) : D) = B at *
  simp only [evq_rangeI, evq_op, evq_cons, evq_nil, evq_const, evq_var, g, h3, h4, Option.map_some, List.map_cons, List.map_nil, R.ds]
theorem marks_ev {l : Nat} (h : 21 < ρ.length) (g : ρ[4]? = some (.val (.int (l : Int)))) : ∃ a b c d : Nat, (∀ x ∈ [a, b, c, d], x ∈ [45, 43, 95, 61]) ∧ ev1 cf l7M ρ = some (.list [.str [a], .str [b], .str [c], .str [d]]) := by
  have hc : ∃ cs : List Nat, cs.length = 4 ∧ (∀ c ∈ cs, c ∈ [45, 43, 95, 61]) ∧ ev cf l7M ρ = some [.own (cs.map fun c => .str [c])] := by
    unfold l7M
    refine comp_signs (items := [.int 0, .int 1, .int 2, .int 3]) rfl ?_ ?_
    · exact range_items (n := 4) (by decide)
    · intro k hk
      obtain ⟨c, hc, e⟩ := idx_mk (x := l / 4 ^ k)
      exact ⟨c, hc, dig_ev (b := 4) (e := k) (t := .str [45, 43, 95, 61]) (by decide) (by decide) (by omega) (set_ne (by decide) g) rfl (var_ev (set_eq h)) e⟩
  obtain ⟨cs, h1, h2, h3⟩ := hc
  match cs, h1 with
  | [a, b, c, d], _ => exact ⟨a, b, c, d, h2, by rw [ev1_eq, h3]; rfl⟩
theorem others_ev {l n : Nat} (hn : n ≤ 5) (h : 23 < ρ.length) (g : ρ[9]? = some (.val (.int (l : Int)))) (g2 : ρ[11]? = some (.val (.int (n : Int)))) : ∃ a b c d : Nat, (∀ x ∈ [a, b, c, d], x ∈ [45, 43, 95, 61]) ∧ ev1 cf l7O ρ = some (.list [.str [a], .str [b], .str [c], .str [d]]) := by
  have hc : ∃ cs : List Nat, cs.length = 4 ∧ (∀ c ∈ cs, c ∈ [45, 43, 95, 61]) ∧ ev cf l7O ρ = some [.own (cs.map fun c => .str [c])] := by
    unfold l7O
    refine comp_signs (items := [.int 0, .int 1, .int 2, .int 3]) rfl ?_ ?_
    · exact range_items (n := 4) (by decide)
    · intro k hk
      obtain ⟨c, hc, e⟩ := idx_mk (x := l / 4 ^ (k + n))
      refine ⟨c, hc, dig_ev (b := 4) (e := k + n) (t := .str [45, 43, 95, 61]) (by decide) (by decide) (by omega) (set_ne (by decide) g) rfl ?_ e⟩
      have a1 : opF .add [.int (k : Int), .int (n : Int)] = some (.val (.int ((k + n : Nat) : Int))) := by rw [o_addi]; push_cast; rfl
      have g3 : (ρ.set 23 (.val (.int (k : Int))))[23]? = some (.val (.int (k : Int))) := set_eq h
      have g4 : (ρ.set 23 (.val (.int (k : Int))))[11]? = some (.val (.int (n : Int))) := set_ne (by decide) g2
      generalize ρ.set 23 (.val (.int (k : Int))) = ρ2 at *
      simp only [evq_op, evq_cons, evq_nil, evq_var, g3, g4, a1, Option.map_some, List.map_cons, List.map_nil, R.ds]
  obtain ⟨cs, h1, h2, h3⟩ := hc
  match cs, h1 with
  | [a, b, c, d], _ => exact ⟨a, b, c, d, h2, by rw [ev1_eq, h3]; rfl⟩
set_option genInjectivity false in
structure RunOK (r : List Nat) : Prop where
  len : r.length ≤ 3
  ab : ∀ c ∈ r, c ∈ [97, 98]
theorem run_ev {l : Nat} (h : 22 < ρ.length) (g : ρ[4]? = some (.val (.int (l : Int)))) : ∃ r, RunOK r ∧ ev1 cf l7R ρ = some (.str r) := by
  have hr := rng_mod (cf := cf) (b := 4) (by decide) (by decide) g
  have hl : l % 4 < 4 := Nat.mod_lt _ (by decide)
  obtain ⟨cs, h1, h2, h3⟩ := comp_signs (cf := cf) (ρ := ρ) (i := 22) (S := [97, 98]) (e := .op .index (.cons (.const (.str [97, 98])) (.cons (.op .mod (.cons (.op .fdiv (.cons (.var 4) (.cons (.op .pow (.cons (.const (.int 2)) (.cons (.var 22) .nil))) .nil))) (.cons (.const (.int 2)) .nil))) .nil)))
    hr (range_items (by omega)) fun k hk => by
      obtain ⟨c, hc, e⟩ := idx_ab (x := l / 2 ^ k)
      exact ⟨c, hc, dig_ev (b := 2) (e := k) (t := .str [97, 98]) (by decide) (by decide) (by omega) (set_ne (by decide) g) rfl (var_ev (set_eq h)) e⟩
  have h4 : cs.length ≤ 3 := by rw [h1]; simp; omega
  refine ⟨cs, ⟨h4, h2⟩, ?_⟩
  have h5 := o_join0 (cs := cs) (by omega)
  unfold l7R
  generalize (cs.map fun c => D.str [c]) = CS at *
  rw [ev1_eq, evq_op, evq_cons, evq_const, evq_cons]
  erw [h3]
  simp only [evq_nil, Option.map_some, List.map_cons, List.map_nil, R.ds, h5]
  rfl
theorem below_ev {l n : Nat} (h : 24 < ρ.length) (g : ρ[9]? = some (.val (.int (l : Int)))) (g2 : ρ[11]? = some (.val (.int (n : Int)))) : ∃ j, j < 7 ∧ ev1 cf l7B ρ = some (.str (be j)) := by
  have hr := rng_mod (cf := cf) (b := 3) (by decide) (by decide) g2
  have hl : n % 3 < 3 := Nat.mod_lt _ (by decide)
  obtain ⟨cs, h1, h2, h3⟩ := comp_signs (cf := cf) (ρ := ρ) (i := 24) (S := [97, 98]) (e := .op .index (.cons (.const (.str [97, 98])) (.cons (.op .mod (.cons (.op .fdiv (.cons (.var 9) (.cons (.op .pow (.cons (.const (.int 2)) (.cons (.var 24) .nil))) .nil))) (.cons (.const (.int 2)) .nil))) .nil)))
    hr (range_items (by omega)) fun k hk => by
      obtain ⟨c, hc, e⟩ := idx_ab (x := l / 2 ^ k)
      exact ⟨c, hc, dig_ev (b := 2) (e := k) (t := .str [97, 98]) (by decide) (by decide) (by omega) (set_ne (by decide) g) rfl (var_ev (set_eq h)) e⟩
  have h4 : cs.length < 3 := by rw [h1]; simp; exact hl
  have hj : ∃ j s, j < 7 ∧ opF .join [.str [47], .list (cs.map fun c => .str [c])] = some (.val s) ∧ opF .add [.str [47], s] = some (.val (.str (be j))) := by
    have ab : ∀ c, c ∈ [97, 98] → c = 97 ∨ c = 98 := fun c hc => by simpa using hc
    match cs, h4 with
    | [], _ => exact ⟨0, _, by decide, rfl, rfl⟩
    | [c], _ =>
      rcases ab c (h2 c (by simp)) with rfl | rfl
      · exact ⟨1, _, by decide, rfl, rfl⟩
      · exact ⟨2, _, by decide, rfl, rfl⟩
    | [c, d], _ =>
      rcases ab c (h2 c (by simp)) with rfl | rfl <;> rcases ab d (h2 d (by simp)) with rfl | rfl
      · exact ⟨3, _, by decide, rfl, rfl⟩
      · exact ⟨5, _, by decide, rfl, rfl⟩
      · exact ⟨4, _, by decide, rfl, rfl⟩
      · exact ⟨6, _, by decide, rfl, rfl⟩
  obtain ⟨j, s, hj, h5, h6⟩ := hj
  refine ⟨j, hj, ?_⟩
  unfold l7B
  generalize (cs.map fun c => D.str [c]) = CS at *
  rw [ev1_eq, evq_op, evq_cons, evq_const, evq_cons, evq_op, evq_cons, evq_const, evq_cons]
  erw [h3]
  simp only [evq_nil, Option.map_some, List.map_cons, List.map_nil, R.ds, h5, h6]
  rfl
theorem folder_ev {l : Nat} (h : 20 < ρ.length) (g : ρ[4]? = some (.val (.int (l : Int)))) : ∃ i, i < 5 ∧ ev1 cf l7F ρ = some (.str (fo i)) := by
  have hr := rng_mod (cf := cf) (b := 3) (by decide) (by decide) g
  have hl : l % 3 < 3 := Nat.mod_lt _ (by decide)
  have hl2 : l / 3 % 3 < 3 := Nat.mod_lt _ (by decide)
  have el : ∀ (k : Nat) (w : D), k ≤ 4 → opF .index [.tup [.str [97], .str [98], .str [97, 46, 98]], .int ((l / 3 ^ k % 3 : Nat) : Int)] = some (.val w) →
      ev cf (.op .index (.cons (.tup (.cons (.const (.str [97])) (.cons (.const (.str [98])) (.cons (.const (.str [97, 46, 98])) .nil)))) (.cons (.op .mod (.cons (.op .fdiv (.cons (.var 4) (.cons (.op .pow (.cons (.const (.int 3)) (.cons (.var 20) .nil))) .nil))) (.cons (.const (.int 3)) .nil))) .nil))) (ρ.set 20 (.val (.int (k : Int)))) = some [.val w] :=
    fun k w hk e => dig_ev (b := 3) (e := k) (t := .tup [.str [97], .str [98], .str [97, 46, 98]]) (by decide) (by decide) (by omega) (set_ne (by decide) g) rfl (var_ev (set_eq h)) e
  have hj : ∃ i cs s, i < 5 ∧ compGo (fun d => turnD (ev cf (.const (.bool true)) (ρ.set 20 (.val d))) (ev cf (.op .index (.cons (.tup (.cons (.const (.str [97])) (.cons (.const (.str [98])) (.cons (.const (.str [97, 46, 98])) .nil)))) (.cons (.op .mod (.cons (.op .fdiv (.cons (.var 4) (.cons (.op .pow (.cons (.const (.int 3)) (.cons (.var 20) .nil))) .nil))) (.cons (.const (.int 3)) .nil))) .nil))) (ρ.set 20 (.val d)))) ((List.range' 0 (l % 3)).map fun (k : Nat) => .int (k : Int)) = some cs ∧
      opF .join [.str [47], .list cs] = some (.val s) ∧ opF .add [.str [47], s] = some (.val (.str (fo i))) := by
    have e0 : l / 3 ^ 0 % 3 = l % 3 := by simp
    have e1 : l / 3 ^ 1 % 3 = l / 3 % 3 := by simp
    have c0 := fun w => el 0 w (by decide)
    have c1 := fun w => el 1 w (by decide)
    rw [e0] at c0
    rw [e1] at c1
    generalize l % 3 = x at *
    generalize l / 3 % 3 = y at *
    match x, hl with
    | 0, _ => exact ⟨0, _, _, by decide, rfl, rfl, rfl⟩
    | 1, _ =>
      have c0' := c0 (.str [98]) rfl
      refine ⟨1, [.str [98]], _, by decide, ?_, rfl, rfl⟩
      show compGo _ [.int ((0 : Nat) : Int)] = _
      unfold compGo
      rw [c0']; rfl
    | 2, _ =>
      have c0' := c0 (.str [97, 46, 98]) rfl
      match y, hl2 with
      | 0, _ =>
        have c1' := c1 (.str [97]) rfl
        refine ⟨2, [.str [97, 46, 98], .str [97]], _, by decide, ?_, rfl, rfl⟩
        show compGo _ [.int ((0 : Nat) : Int), .int ((1 : Nat) : Int)] = _
        unfold compGo
        rw [c0']
        unfold compGo
        rw [c1']; rfl
      | 1, _ =>
        have c1' := c1 (.str [98]) rfl
        refine ⟨3, [.str [97, 46, 98], .str [98]], _, by decide, ?_, rfl, rfl⟩
        show compGo _ [.int ((0 : Nat) : Int), .int ((1 : Nat) : Int)] = _
        unfold compGo
        rw [c0']
        unfold compGo
        rw [c1']; rfl
      | 2, _ =>
        have c1' := c1 (.str [97, 46, 98]) rfl
        refine ⟨4, [.str [97, 46, 98], .str [97, 46, 98]], _, by decide, ?_, rfl, rfl⟩
        show compGo _ [.int ((0 : Nat) : Int), .int ((1 : Nat) : Int)] = _
        unfold compGo
        rw [c0']
        unfold compGo
        rw [c1']; rfl
  obtain ⟨i, cs, s, hi, h3, h5, h6⟩ := hj
  have h3' := comp_run hr h3
  refine ⟨i, hi, ?_⟩
  unfold l7F
  rw [ev1_eq, evq_op, evq_cons, evq_const, evq_cons, evq_op, evq_cons, evq_const, evq_cons]
  erw [h3']
  simp only [evq_nil, Option.map_some, List.map_cons, List.map_nil, R.ds, h5, h6]
  rfl
end
end Mine
end P07ex
section P07fx
open PySem PySem.StrLaws PySem.Builtin PySem.Builtin.Str
namespace Mine
noncomputable def l7L : X := (.op .add (.cons (.op .abs (.cons (.op .sum (.cons (.op .slice3 (.cons (.var 0) (.cons (.var 3) (.cons (.const .none) (.cons (.const (.int 6)) .nil))))) .nil)) .nil)) (.cons (.op .index (.cons (.tup (.cons (.const (.int 21847)) (.cons (.const (.int 1054)) (.cons (.const (.int 930217)) (.cons (.const (.int 66)) (.cons (.const (.int 424242)) .nil)))))) (.cons (.var 3) .nil))) .nil)))
noncomputable def l7fB : S := (.seq (.assign 4 (.op .add (.cons (.op .abs (.cons (.op .sum (.cons (.op .slice3 (.cons (.var 0) (.cons (.var 3) (.cons (.const .none) (.cons (.const (.int 6)) .nil))))) .nil)) .nil)) (.cons (.op .index (.cons (.tup (.cons (.const (.int 21847)) (.cons (.const (.int 1054)) (.cons (.const (.int 930217)) (.cons (.const (.int 66)) (.cons (.const (.int 424242)) .nil)))))) (.cons (.var 3) .nil))) .nil)))) (.seq (.assign 6 (.op .add (.cons (.const (.str [47])) (.cons (.op .join (.cons (.const (.str [47])) (.cons (.comp 20 (.rangeI (.cons (.op .mod (.cons (.var 4) (.cons (.const (.int 3)) .nil))) .nil)) (.const (.bool true)) (.op .index (.cons (.tup (.cons (.const (.str [97])) (.cons (.const (.str [98])) (.cons (.const (.str [97, 46, 98])) .nil)))) (.cons (.op .mod (.cons (.op .fdiv (.cons (.var 4) (.cons (.op .pow (.cons (.const (.int 3)) (.cons (.var 20) .nil))) .nil))) (.cons (.const (.int 3)) .nil))) .nil)))) .nil))) .nil)))) (.seq (.assign 7 (.comp 21 (.rangeI (.cons (.const (.int 4)) .nil)) (.const (.bool true)) (.op .index (.cons (.const (.str [45, 43, 95, 61])) (.cons (.op .mod (.cons (.op .fdiv (.cons (.var 4) (.cons (.op .pow (.cons (.const (.int 4)) (.cons (.var 21) .nil))) .nil))) (.cons (.const (.int 4)) .nil))) .nil))))) (.seq (.assign 4 (.op .fdiv (.cons (.var 4) (.cons (.const (.int 7)) .nil)))) (.seq (.assignO 8 (.list .nil)) (.seq (.forE 5 (.rangeI (.cons (.const (.int 3)) .nil)) (.seq (.append 8 (.op .join (.cons (.const (.str [])) (.cons (.comp 22 (.rangeI (.cons (.op .mod (.cons (.var 4) (.cons (.const (.int 4)) .nil))) .nil)) (.const (.bool true)) (.op .index (.cons (.const (.str [97, 98])) (.cons (.op .mod (.cons (.op .fdiv (.cons (.var 4) (.cons (.op .pow (.cons (.const (.int 2)) (.cons (.var 22) .nil))) .nil))) (.cons (.const (.int 2)) .nil))) .nil)))) .nil)))) (.seq (.assign 4 (.op .fdiv (.cons (.var 4) (.cons (.const (.int 5)) .nil)))) .skip))) (.seq (.seq (.fz 8) (.append 2 (.tup (.cons (.var 6) (.cons (.var 7) (.cons (.var 8) .nil)))))) .skip)))))))
noncomputable def l7rB : S := (.seq (.append 8 (.op .join (.cons (.const (.str [])) (.cons (.comp 22 (.rangeI (.cons (.op .mod (.cons (.var 4) (.cons (.const (.int 4)) .nil))) .nil)) (.const (.bool true)) (.op .index (.cons (.const (.str [97, 98])) (.cons (.op .mod (.cons (.op .fdiv (.cons (.var 4) (.cons (.op .pow (.cons (.const (.int 2)) (.cons (.var 22) .nil))) .nil))) (.cons (.const (.int 2)) .nil))) .nil)))) .nil)))) (.seq (.assign 4 (.op .fdiv (.cons (.var 4) (.cons (.const (.int 5)) .nil)))) .skip))
noncomputable def l7N : X := (.op .add (.cons (.op .abs (.cons (.op .sum (.cons (.op .slice3 (.cons (.var 0) (.cons (.const (.int 5)) (.cons (.const .none) (.cons (.const (.int 6)) .nil))))) .nil)) .nil)) (.cons (.const (.int 1234)) .nil)))
set_option genInjectivity false in
structure Fil where
  i : Nat
  a : Nat
  b : Nat
  c : Nat
  d : Nat
  r0 : List Nat
  r1 : List Nat
  r2 : List Nat
set_option genInjectivity false in
structure FilOK (f : Fil) : Prop where
  i : f.i < 5
  m : ∀ x ∈ [f.a, f.b, f.c, f.d], x ∈ [45, 43, 95, 61]
  r0 : RunOK f.r0
  r1 : RunOK f.r1
  r2 : RunOK f.r2
noncomputable def Fil.runs (f : Fil) : D := .list [.str f.r0, .str f.r1, .str f.r2]
noncomputable def Fil.marks (f : Fil) : D := .list [.str [f.a], .str [f.b], .str [f.c], .str [f.d]]
noncomputable def Fil.D (f : Fil) : D := .tup [.str (fo f.i), f.marks, f.runs]
section
variable {cf : Nat → List D → Option D} {ρ tl : List Slot}
theorem sum_ev {ns : List Int} {k : Nat} {K : X} (hk : k ≤ 5) (g0 : ρ[0]? = some (.val (.list (ns.map .int)))) (hK : ev cf K ρ = some [.val (.int (k : Int))]) :
    ∃ l : Nat, ev cf (.op .abs (.cons (.op .sum (.cons (.op .slice3 (.cons (.var 0) (.cons K (.cons (.const .none) (.cons (.const (.int 6)) .nil))))) .nil)) .nil)) ρ = some [.val (.int (l : Int))] := by
  have h1 : opF .slice3 [.list (ns.map .int), .int (k : Int), .none, .int 6] = some (.own ((pick ns (some (k : Int)) none (some 6)).map .int)) := o_slice3 (ns := ns) (k := k) (n := 6) (by omega) (by decide) (by decide)
  generalize pick ns (some (k : Int)) none (some 6) = pk at h1
  have h2 := o_sumi (l := pk)
  have h3 := o_absi (i := pk.sum)
  refine ⟨pk.sum.natAbs, ?_⟩
  generalize (.int (pk.sum.natAbs : Int) : D) = L at *
  generalize (.int pk.sum : D) = S at *
  generalize pk.map D.int = PK at *
  generalize (ns.map D.int) = NS at *
  generalize (.int (k : Int) : D) = KK at *
  simp only [evq_op, evq_cons, evq_nil, evq_const, evq_var, g0, hK, h1, h2, h3, Option.map_some, List.map_cons, List.map_nil, R.ds]
theorem left_ev {ns : List Int} {k : Nat} (hk : k < 5) (g0 : ρ[0]? = some (.val (.list (ns.map .int)))) (g3 : ρ[3]? = some (.val (.int (k : Int)))) : ∃ l : Nat, ev1 cf l7L ρ = some (.int (l : Int)) := by
  obtain ⟨l, e⟩ := sum_ev (cf := cf) (by omega) g0 (var_ev g3)
  have ho : ∃ o : Nat, opF .index [.tup [.int 21847, .int 1054, .int 930217, .int 66, .int 424242], .int (k : Int)] = some (.val (.int (o : Int))) := by
    match k, hk with
    | 0, _ => exact ⟨21847, rfl⟩
    | 1, _ => exact ⟨1054, rfl⟩
    | 2, _ => exact ⟨930217, rfl⟩
    | 3, _ => exact ⟨66, rfl⟩
    | 4, _ => exact ⟨424242, rfl⟩
  obtain ⟨o, ho⟩ := ho
  have ha : opF .add [.int (l : Int), .int (o : Int)] = some (.val (.int ((l + o : Nat) : Int))) := by rw [o_addi]; push_cast; rfl
  refine ⟨l + o, ?_⟩
  unfold l7L
  generalize (.int (l : Int) : D) = L at *
  generalize (.int (o : Int) : D) = O at *
  generalize (.int ((l + o : Nat) : Int) : D) = LO at *
  have et : ev cf (.op .index (.cons (.tup (.cons (.const (.int 21847)) (.cons (.const (.int 1054)) (.cons (.const (.int 930217)) (.cons (.const (.int 66)) (.cons (.const (.int 424242)) .nil)))))) (.cons (.var 3) .nil))) ρ = some [.val O] := by
    rw [evq_op, evq_cons]
    rw [show ev cf (.tup (.cons (.const (.int 21847)) (.cons (.const (.int 1054)) (.cons (.const (.int 930217)) (.cons (.const (.int 66)) (.cons (.const (.int 424242)) .nil)))))) ρ = some [.val (.tup [.int 21847, .int 1054, .int 930217, .int 66, .int 424242])] from rfl]
    generalize D.tup [.int 21847, .int 1054, .int 930217, .int 66, .int 424242] = T at *
    simp only [evq_cons, evq_nil, evq_var, g3, ho, Option.map_some, List.map_cons, List.map_nil, R.ds]
  rw [ev1_eq, evq_op, evq_cons, e, evq_cons, et]
  simp only [evq_nil, ha, Option.map_some, List.map_cons, List.map_nil, R.ds]
  rfl
theorem fresh_ev {ns : List Int} (g0 : ρ[0]? = some (.val (.list (ns.map .int)))) : ∃ l : Nat, ev1 cf l7N ρ = some (.int (l : Int)) := by
  obtain ⟨l, e⟩ := sum_ev (cf := cf) (k := 5) (K := .const (.int 5)) (by omega) g0 rfl
  have ha : opF .add [.int (l : Int), .int 1234] = some (.val (.int ((l + 1234 : Nat) : Int))) := by rw [o_addi]; push_cast; rfl
  refine ⟨l + 1234, ?_⟩
  unfold l7N
  generalize (.int (l : Int) : D) = L at *
  generalize (.int ((l + 1234 : Nat) : Int) : D) = LO at *
  rw [ev1_eq, evq_op, evq_cons, e]
  simp only [evq_cons, evq_nil, evq_const, ha, Option.map_some, List.map_cons, List.map_nil, R.ds]
  rfl
theorem divX {v l k : Nat} {x : Int} (hx : x = (k : Int)) (hk : k ≠ 0) (g : ρ[v]? = some (.val (.int (l : Int)))) : ev1 cf (.op .fdiv (.cons (.var v) (.cons (.const (.int x)) .nil))) ρ = some (.int ((l / k : Nat) : Int)) := by
  subst hx
  have h := o_div (n := l) (k := k) hk
  generalize (.int (l : Int) : D) = L at *
  generalize (.int (k : Int) : D) = K at *
  rw [ev1_eq]
  simp only [evq_op, evq_cons, evq_nil, evq_var, evq_const, g, h, Option.map_some, List.map_cons, List.map_nil, R.ds]
  rfl
section
variable {x0 x1 x2 x3 x4 x5 x6 x7 x8 : Slot}
theorem run_turn (ht : 16 ≤ tl.length) {l : Nat} {p : D} {R : List D} (hl : R.length < lim) :
    ∃ r, RunOK r ∧ ex cf l7rB (x0 :: x1 :: x2 :: x3 :: .val (.int (l : Int)) :: .val p :: x6 :: x7 :: .own R :: tl) = some (x0 :: x1 :: x2 :: x3 :: .val (.int ((l / 5 : Nat) : Int)) :: .val p :: x6 :: x7 :: .own (R ++ [.str r]) :: tl, .next) := by
  obtain ⟨r, hr, e⟩ := run_ev (cf := cf) (ρ := x0 :: x1 :: x2 :: x3 :: .val (.int (l : Int)) :: .val p :: x6 :: x7 :: .own R :: tl) (l := l) (by simp; omega) rfl
  refine ⟨r, hr, ?_⟩
  unfold l7R at e
  unfold l7rB
  exact R_seq (R_append e rfl hl rfl) (R_next (R_seq (R_assign (divX (k := 5) rfl (by decide) rfl) rfl) (R_next R_skip)))
theorem file_turn (ht : 16 ≤ tl.length) (hta : ∀ j, tl.all (appOK j) = true) (a4 : ∀ j, appOK j x4 = true) (a5 : ∀ j, appOK j x5 = true) (a6 : ∀ j, appOK j x6 = true) (a7 : ∀ j, appOK j x7 = true) (a8 : ∀ j, appOK j x8 = true) {ns : List Int} {k : Nat} (hk : k < 5) {fs : List D} (hl : fs.length < lim) :
    ∃ f y4 y5 y6 y7 y8, FilOK f ∧ ex cf l7fB (.val (.list (ns.map .int)) :: .val (.tok 0) :: .own fs :: .val (.int (k : Int)) :: x4 :: x5 :: x6 :: x7 :: x8 :: tl) =
      some (.val (.list (ns.map .int)) :: .val (.tok 0) :: .own (fs ++ [f.D]) :: .val (.int (k : Int)) :: .val y4 :: .val y5 :: .val y6 :: .val y7 :: .val y8 :: tl, .next) := by
  obtain ⟨l, eL⟩ := left_ev (cf := cf) (ρ := .val (.list (ns.map .int)) :: .val (.tok 0) :: .own fs :: .val (.int (k : Int)) :: x4 :: x5 :: x6 :: x7 :: x8 :: tl) hk rfl rfl
  obtain ⟨i, hi, eF⟩ := folder_ev (cf := cf) (ρ := .val (.list (ns.map .int)) :: .val (.tok 0) :: .own fs :: .val (.int (k : Int)) :: .val (.int (l : Int)) :: x5 :: x6 :: x7 :: x8 :: tl) (by simp; omega) rfl
  obtain ⟨a, b, c, d, hm, eM⟩ := marks_ev (cf := cf) (ρ := .val (.list (ns.map .int)) :: .val (.tok 0) :: .own fs :: .val (.int (k : Int)) :: .val (.int (l : Int)) :: x5 :: .val (.str (fo i)) :: x7 :: x8 :: tl) (by simp; omega) rfl
  obtain ⟨r0, h0, e0⟩ := run_turn (cf := cf) (x0 := .val (.list (ns.map .int))) (x1 := .val (.tok 0)) (x2 := .own fs) (x3 := .val (.int (k : Int))) (x6 := .val (.str (fo i))) (x7 := .val (.list [.str [a], .str [b], .str [c], .str [d]])) (p := .int 0) (R := []) (l := l / 7) ht (by decide)
  obtain ⟨r1, h1, e1⟩ := run_turn (cf := cf) (x0 := .val (.list (ns.map .int))) (x1 := .val (.tok 0)) (x2 := .own fs) (x3 := .val (.int (k : Int))) (x6 := .val (.str (fo i))) (x7 := .val (.list [.str [a], .str [b], .str [c], .str [d]])) (p := .int 1) (R := [] ++ [.str r0]) (l := l / 7 / 5) ht (by simp [lim])
  obtain ⟨r2, h2, e2⟩ := run_turn (cf := cf) (x0 := .val (.list (ns.map .int))) (x1 := .val (.tok 0)) (x2 := .own fs) (x3 := .val (.int (k : Int))) (x6 := .val (.str (fo i))) (x7 := .val (.list [.str [a], .str [b], .str [c], .str [d]])) (p := .int 2) (R := [] ++ [.str r0] ++ [.str r1]) (l := l / 7 / 5 / 5) ht (by simp [lim])
  refine ⟨⟨i, a, b, c, d, r0, r1, r2⟩, .int ((l / 7 / 5 / 5 / 5 : Nat) : Int), .int 2, .str (fo i), .list [.str [a], .str [b], .str [c], .str [d]], .list [.str r0, .str r1, .str r2], ⟨hi, hm, h0, h1, h2⟩, ?_⟩
  have hn : ∀ y4 y6 y7 : D, noApp 8 (.val (.list (ns.map .int)) :: .val (.tok 0) :: .own fs :: .val (.int (k : Int)) :: .val y4 :: x5 :: .val y6 :: .val y7 :: x8 :: tl) = true := fun y4 y6 y7 => by
    simp only [noApp_eq, List.all_cons, appOK_val, appOK_own, a5, a8, hta, Bool.and_true, Bool.true_and]
  unfold l7L at eL
  unfold l7F at eF
  unfold l7M at eM
  unfold l7rB at e0 e1 e2
  unfold l7fB
  refine R_seq (R_assign eL rfl) (R_next (R_seq (R_assign eF rfl) (R_next (R_seq (R_assign eM rfl) (R_next (R_seq (R_assign (divX (k := 7) rfl (by decide) rfl) rfl) (R_next (R_seq (R_assignO (l := []) (hn _ _ _) rfl rfl) (R_next (R_seq (R_for (l := [.int 0, .int 1, .int 2]) rfl
    (R_forCons (st := put1 5) rfl e0 (R_fNext (R_forCons (st := put1 5) rfl e1 (R_fNext (R_forCons (st := put1 5) rfl e2 (R_fNext R_forNil))))))) (R_next (R_seq (R_seq (R_fz rfl rfl) (R_next (R_append (d := .tup [.str (fo i), .list [.str [a], .str [b], .str [c], .str [d]], .list [.str r0, .str r1, .str r2]]) rfl rfl hl rfl))) (R_next R_skip)))))))))))))
end
end
end Mine
end P07fx
section P07gx
open PySem PySem.StrLaws PySem.Builtin PySem.Builtin.Str
namespace Mine
noncomputable def l7i1 : S := (.assignO 12 (.op .listOf (.cons (.op .index (.cons (.op .index (.cons (.var 2) (.cons (.var 11) .nil))) (.cons (.const (.int 1)) .nil))) .nil)))
noncomputable def l7i2 : S := (.ite (.op .eq (.cons (.op .mod (.cons (.op .add (.cons (.var 11) (.cons (.var 3) .nil))) (.cons (.const (.int 2)) .nil))) (.cons (.const (.int 1)) .nil))) (.seq (.setItem 12 (.const (.int 3)) (.op .index (.cons (.const (.str [45, 43, 95, 61])) (.cons (.op .mod (.cons (.op .add (.cons (.op .strIndex (.cons (.const (.str [45, 43, 95, 61])) (.cons (.op .index (.cons (.var 12) (.cons (.const (.int 3)) .nil))) .nil))) (.cons (.const (.int 1)) .nil))) (.cons (.const (.int 4)) .nil))) .nil)))) .skip) .skip)
noncomputable def l7i3 : S := (.seq (.seq (.fz 12) (.assign 13 (.call 1 (.cons (.call 32 (.cons (.var 12) (.cons (.op .mul (.cons (.list (.cons (.const (.str [42])) .nil)) (.cons (.const (.int 3)) .nil))) .nil))) (.cons (.var 1) (.cons (.const (.str [46])) .nil)))))) (.seq (.assign 14 (.call 31 (.cons (.var 13) (.cons (.var 1) (.cons (.call 8 (.cons (.var 10) .nil)) .nil))))) (.seq (.ite (.op .ne (.cons (.op .isnot (.cons (.var 14) (.cons (.const .none) .nil))) (.cons (.op .eq (.cons (.var 12) (.cons (.var 7) .nil))) .nil))) (.seq (.ret (.const (.bool false))) .skip) .skip) (.seq (.ite (.op .is_ (.cons (.var 14) (.cons (.const .none) .nil))) (.seq .cont .skip) .skip) (.seq (.ite (.op .ne (.cons (.var 14) (.cons (.var 8) .nil))) (.seq (.ret (.const (.bool false))) .skip) .skip) (.seq (.assign 15 (.comp 23 (.rangeI (.cons (.const (.int 4)) .nil)) (.const (.bool true)) (.op .index (.cons (.const (.str [45, 43, 95, 61])) (.cons (.op .mod (.cons (.op .fdiv (.cons (.var 9) (.cons (.op .pow (.cons (.const (.int 4)) (.cons (.op .add (.cons (.var 23) (.cons (.var 11) .nil))) .nil))) .nil))) (.cons (.const (.int 4)) .nil))) .nil))))) (.seq (.assign 16 (.op .add (.cons (.const (.str [47])) (.cons (.op .join (.cons (.const (.str [47])) (.cons (.comp 24 (.rangeI (.cons (.op .mod (.cons (.var 11) (.cons (.const (.int 3)) .nil))) .nil)) (.const (.bool true)) (.op .index (.cons (.const (.str [97, 98])) (.cons (.op .mod (.cons (.op .fdiv (.cons (.var 9) (.cons (.op .pow (.cons (.const (.int 2)) (.cons (.var 24) .nil))) .nil))) (.cons (.const (.int 2)) .nil))) .nil)))) .nil))) .nil)))) (.seq (.assign 17 (.call 4 (.cons (.var 16) (.cons (.call 32 (.cons (.var 15) (.cons (.op .slice3 (.cons (.var 14) (.cons (.const .none) (.cons (.const .none) (.cons (.op .neg (.cons (.const (.int 1)) .nil)) .nil))))) .nil))) .nil)))) (.seq (.assign 18 (.call 31 (.cons (.call 1 (.cons (.call 32 (.cons (.var 15) (.cons (.op .mul (.cons (.list (.cons (.const (.str [42])) .nil)) (.cons (.const (.int 3)) .nil))) .nil))) (.cons (.var 1) (.cons (.const (.str [46])) .nil)))) (.cons (.var 1) (.cons (.call 8 (.cons (.var 17) .nil)) .nil))))) (.seq (.ite (.op .ne (.cons (.var 18) (.cons (.op .slice3 (.cons (.var 8) (.cons (.const .none) (.cons (.const .none) (.cons (.op .neg (.cons (.const (.int 1)) .nil)) .nil))))) .nil))) (.seq (.ret (.const (.bool false))) .skip) .skip) (.seq (.ite (.and (.op .ne (.cons (.var 15) (.cons (.var 7) .nil))) (.op .isnot (.cons (.call 31 (.cons (.var 13) (.cons (.var 1) (.cons (.call 8 (.cons (.var 17) .nil)) .nil)))) (.cons (.const .none) .nil)))) (.seq (.ret (.const (.bool false))) .skip) .skip) (.seq (.assign 19 (.call 4 (.cons (.call 6 (.cons (.var 17) .nil)) (.cons (.call 11 (.cons (.var 6) (.cons (.call 6 (.cons (.var 17) .nil)) .nil))) .nil)))) (.seq (.seq (.fz 12) (.ite (.or (.op .ne (.cons (.call 9 (.cons (.var 19) .nil)) (.cons (.var 6) .nil))) (.op .ne (.cons (.call 4 (.cons (.call 9 (.cons (.var 19) .nil)) (.cons (.call 32 (.cons (.var 12) (.cons (.op .slice3 (.cons (.var 18) (.cons (.const .none) (.cons (.const .none) (.cons (.op .neg (.cons (.const (.int 1)) .nil)) .nil))))) .nil))) .nil))) (.cons (.var 10) .nil)))) (.seq (.ret (.const (.bool false))) .skip) .skip)) .skip)))))))))))))
theorem mark_next {g : Nat} (h : g ∈ [45, 43, 95, 61]) : ∃ q q1 q2 : D, ∃ s, s ∈ [45, 43, 95, 61] ∧ opF .strIndex [.str [45, 43, 95, 61], .str [g]] = some (.val q) ∧ opF .add [q, .int 1] = some (.val q1) ∧ opF .mod [q1, .int 4] = some (.val q2) ∧ opF .index [.str [45, 43, 95, 61], q2] = some (.val (.str [s])) := by
  simp only [List.mem_cons, List.not_mem_nil, or_false] at h
  rcases h with rfl | rfl | rfl | rfl
  · exact ⟨.int 0, .int 1, .int 1, 43, by decide, by kernel_rfl, rfl, rfl, rfl⟩
  · exact ⟨.int 1, .int 2, .int 2, 95, by decide, by kernel_rfl, rfl, rfl, rfl⟩
  · exact ⟨.int 2, .int 3, .int 3, 61, by decide, by kernel_rfl, rfl, rfl, rfl⟩
  · exact ⟨.int 3, .int 4, .int 0, 45, by decide, by kernel_rfl, rfl, rfl, rfl⟩
section
variable {cf : Nat → List D → Option D} {tl : List Slot} {x0 x1 x4 x5 x6 x7 x8 x9 x10 x12 x13 x14 x15 x16 x17 x18 x19 : Slot}
theorem sought_run {FS : List D} {k n : Nat} {g : Fil} (hg : FilOK g) (hn : n ≤ 1000) (hi : FS[n]? = some g.D)
    (ha : noApp 12 (x0 :: x1 :: .own FS :: .val (.int (k : Int)) :: x4 :: x5 :: x6 :: x7 :: x8 :: x9 :: x10 :: .val (.int (n : Int)) :: x12 :: x13 :: x14 :: x15 :: x16 :: x17 :: x18 :: x19 :: tl) = true) :
    ∃ s, s ∈ [45, 43, 95, 61] ∧ ∃ S, ex cf l7i1 (x0 :: x1 :: .own FS :: .val (.int (k : Int)) :: x4 :: x5 :: x6 :: x7 :: x8 :: x9 :: x10 :: .val (.int (n : Int)) :: x12 :: x13 :: x14 :: x15 :: x16 :: x17 :: x18 :: x19 :: tl) =
        some (x0 :: x1 :: .own FS :: .val (.int (k : Int)) :: x4 :: x5 :: x6 :: x7 :: x8 :: x9 :: x10 :: .val (.int (n : Int)) :: .own S :: x13 :: x14 :: x15 :: x16 :: x17 :: x18 :: x19 :: tl, .next) ∧
      ex cf l7i2 (x0 :: x1 :: .own FS :: .val (.int (k : Int)) :: x4 :: x5 :: x6 :: x7 :: x8 :: x9 :: x10 :: .val (.int (n : Int)) :: .own S :: x13 :: x14 :: x15 :: x16 :: x17 :: x18 :: x19 :: tl) =
        some (x0 :: x1 :: .own FS :: .val (.int (k : Int)) :: x4 :: x5 :: x6 :: x7 :: x8 :: x9 :: x10 :: .val (.int (n : Int)) :: .own [.str [g.a], .str [g.b], .str [g.c], .str [s]] :: x13 :: x14 :: x15 :: x16 :: x17 :: x18 :: x19 :: tl, .next) := by
  have h1 : opF .index [.list FS, .int (n : Int)] = some (.val g.D) := o_listidx hi (by omega)
  have h2 : opF .index [g.D, .int 1] = some (.val g.marks) := rfl
  have h3 : opF .listOf [g.marks] = some (.own [.str [g.a], .str [g.b], .str [g.c], .str [g.d]]) := rfl
  have h4 : opF .add [.int (n : Int), .int (k : Int)] = some (.val (.int ((n + k : Nat) : Int))) := by rw [o_addi]; push_cast; rfl
  have h5 := o_mod (n := n + k) (k := 2) (by decide)
  have h6 : opF .eq [.int (((n + k) % 2 : Nat) : Int), .int 1] = some (.val (.bool (decide ((n + k) % 2 = 1)))) := by rw [o_eqi]; congr 4; simp only [eq_iff_iff]; omega
  have h7 : opF .index [.list [.str [g.a], .str [g.b], .str [g.c], .str [g.d]], .int 3] = some (.val (.str [g.d])) := rfl
  obtain ⟨q, q1, q2, s, hs, m1, m2, m3, m4⟩ := mark_next (hg.m g.d (by simp))
  rw [show ((2 : Nat) : Int) = 2 from rfl] at h5
  generalize (.int (n : Int) : D) = N at *
  generalize (.int (k : Int) : D) = K at *
  generalize (.int ((n + k : Nat) : Int) : D) = NK at *
  generalize (.int (((n + k) % 2 : Nat) : Int) : D) = NK2 at *
  generalize g.D = GD at *
  generalize g.marks = GM at *
  have t : evT cf (.op .eq (.cons (.op .mod (.cons (.op .add (.cons (.var 11) (.cons (.var 3) .nil))) (.cons (.const (.int 2)) .nil))) (.cons (.const (.int 1)) .nil))) (x0 :: x1 :: .own FS :: .val K :: x4 :: x5 :: x6 :: x7 :: x8 :: x9 :: x10 :: .val N :: .own [.str [g.a], .str [g.b], .str [g.c], .str [g.d]] :: x13 :: x14 :: x15 :: x16 :: x17 :: x18 :: x19 :: tl) = some (decide ((n + k) % 2 = 1)) := by
    clear h1 h2 h3 h7 m1 m2 m3 m4
    generalize decide ((n + k) % 2 = 1) = b at *
    (((try simp (config := {failIfUnchanged := false}) only [ev1_eq, evT_eq, evI_eq, one_some, theItems_some, truthR_some, evq_const, evq_var, evq_op, evq_nil, evq_cons, evq_star, evq_and, evq_or, evq_not, evq_ite, evq_call, evq_tup, evq_list, evq_comp, evq_comp2, evq_comp3, evq_mapF, evq_seqI, evq_rangeI, evq_enumI, evq_setI, fzAll, ownAt, Mine.R.ds, Mine.R.fz, Mine.D.truth, List.map_cons, List.map_nil, List.getElem?_cons_zero, List.getElem?_cons_succ, List.getElem?_nil, Option.map_some, Option.map_none, List.set_cons_zero, List.set_cons_succ, List.getElem?_set, List.length_set, Nat.reduceLT, eq_str, ne_str, notin_str, in_str1, replace1, List.cons.injEq, and_true, and_false, true_and, false_and, Nat.reduceEqDiff, decide_true, decide_false, reduceCtorEq, Bool.not_true, Bool.not_false, Nat.reduceAdd, List.isEmpty_cons, List.isEmpty_nil, Nat.reduceLeDiff, Nat.zero_le, Option.isSome_some, Option.isSome_none, noApp_eq, List.all_cons, List.all_nil, appOK_val, appOK_own, appOK_unset, appOK_app, Bool.and_true, Bool.true_and, reduceIte, List.mem_cons, List.not_mem_nil, or_false, false_or, or_true, true_or, itemsOf, Option.bind_some, compGo, turnD_tt, o_len, o_lens, o_sub, o_neg, o_addi, o_startswith, o_endswith, le_lim, lt_lim, List.length_cons, List.length_nil, Nat.zero_add, *]) <;> rfl))
  have s1 : ex cf l7i1 (x0 :: x1 :: .own FS :: .val K :: x4 :: x5 :: x6 :: x7 :: x8 :: x9 :: x10 :: .val N :: x12 :: x13 :: x14 :: x15 :: x16 :: x17 :: x18 :: x19 :: tl) =
      some (x0 :: x1 :: .own FS :: .val K :: x4 :: x5 :: x6 :: x7 :: x8 :: x9 :: x10 :: .val N :: .own [.str [g.a], .str [g.b], .str [g.c], .str [g.d]] :: x13 :: x14 :: x15 :: x16 :: x17 :: x18 :: x19 :: tl, .next) := by
    clear t h5 h6 h7 m1 m2 m3 m4
    unfold l7i1
    refine R_assignO ha ?_ rfl
    (((try simp (config := {failIfUnchanged := false}) only [ev1_eq, evT_eq, evI_eq, one_some, theItems_some, truthR_some, evq_const, evq_var, evq_op, evq_nil, evq_cons, evq_star, evq_and, evq_or, evq_not, evq_ite, evq_call, evq_tup, evq_list, evq_comp, evq_comp2, evq_comp3, evq_mapF, evq_seqI, evq_rangeI, evq_enumI, evq_setI, fzAll, ownAt, Mine.R.ds, Mine.R.fz, Mine.D.truth, List.map_cons, List.map_nil, List.getElem?_cons_zero, List.getElem?_cons_succ, List.getElem?_nil, Option.map_some, Option.map_none, List.set_cons_zero, List.set_cons_succ, List.getElem?_set, List.length_set, Nat.reduceLT, eq_str, ne_str, notin_str, in_str1, replace1, List.cons.injEq, and_true, and_false, true_and, false_and, Nat.reduceEqDiff, decide_true, decide_false, reduceCtorEq, Bool.not_true, Bool.not_false, Nat.reduceAdd, List.isEmpty_cons, List.isEmpty_nil, Nat.reduceLeDiff, Nat.zero_le, Option.isSome_some, Option.isSome_none, noApp_eq, List.all_cons, List.all_nil, appOK_val, appOK_own, appOK_unset, appOK_app, Bool.and_true, Bool.true_and, reduceIte, List.mem_cons, List.not_mem_nil, or_false, false_or, or_true, true_or, itemsOf, Option.bind_some, compGo, turnD_tt, o_len, o_lens, o_sub, o_neg, o_addi, o_startswith, o_endswith, le_lim, lt_lim, List.length_cons, List.length_nil, Nat.zero_add, *]) <;> rfl))
  by_cases hp : (n + k) % 2 = 1
  · refine ⟨s, hs, _, s1, ?_⟩
    rw [decide_eq_true hp] at t
    unfold l7i2
    refine R_ite t (R_tt (R_seq (R_setItem (d := .str [s]) (n := 3) (p := 3) (l := [.str [g.a], .str [g.b], .str [g.c], .str [g.d]]) ?_ rfl rfl rfl rfl rfl) (R_next R_skip)))
    clear t h1 h2 h3 h5 h6 s1
    generalize [D.str [g.a], .str [g.b], .str [g.c], .str [g.d]] = L at *
    (((try simp (config := {failIfUnchanged := false}) only [ev1_eq, evT_eq, evI_eq, one_some, theItems_some, truthR_some, evq_const, evq_var, evq_op, evq_nil, evq_cons, evq_star, evq_and, evq_or, evq_not, evq_ite, evq_call, evq_tup, evq_list, evq_comp, evq_comp2, evq_comp3, evq_mapF, evq_seqI, evq_rangeI, evq_enumI, evq_setI, fzAll, ownAt, Mine.R.ds, Mine.R.fz, Mine.D.truth, List.map_cons, List.map_nil, List.getElem?_cons_zero, List.getElem?_cons_succ, List.getElem?_nil, Option.map_some, Option.map_none, List.set_cons_zero, List.set_cons_succ, List.getElem?_set, List.length_set, Nat.reduceLT, eq_str, ne_str, notin_str, in_str1, replace1, List.cons.injEq, and_true, and_false, true_and, false_and, Nat.reduceEqDiff, decide_true, decide_false, reduceCtorEq, Bool.not_true, Bool.not_false, Nat.reduceAdd, List.isEmpty_cons, List.isEmpty_nil, Nat.reduceLeDiff, Nat.zero_le, Option.isSome_some, Option.isSome_none, noApp_eq, List.all_cons, List.all_nil, appOK_val, appOK_own, appOK_unset, appOK_app, Bool.and_true, Bool.true_and, reduceIte, List.mem_cons, List.not_mem_nil, or_false, false_or, or_true, true_or, itemsOf, Option.bind_some, compGo, turnD_tt, o_len, o_lens, o_sub, o_neg, o_addi, o_startswith, o_endswith, le_lim, lt_lim, List.length_cons, List.length_nil, Nat.zero_add, *]) <;> rfl))
  · refine ⟨g.d, hg.m g.d (by simp), _, s1, ?_⟩
    rw [decide_eq_false hp] at t
    unfold l7i2
    exact R_ite t (R_ff R_skip)
end
noncomputable def nm7 (a b c d : Nat) (r0 r1 r2 : List Nat) : List Nat := a :: (r0 ++ b :: (r1 ++ c :: (r2 ++ [d])))
theorem laid_nm {a b c d : Nat} {r0 r1 r2 : List Nat} : laidT [a] [b] [c] [d] r0 r1 r2 = nm7 a b c d r0 r1 r2 := by
  unfold laidT nm7; simp
set_option genInjectivity false in
structure MkOK (a b c d : Nat) : Prop where
  m : ∀ x ∈ [a, b, c, d], x ∈ [45, 43, 95, 61]
theorem MkOK.mk4 {a b c d : Nat} (h : MkOK a b c d) : ∃ i j k l, i < 4 ∧ j < 4 ∧ k < 4 ∧ l < 4 ∧ a = Mine.mk i ∧ b = Mine.mk j ∧ c = Mine.mk k ∧ d = Mine.mk l := by
  have key : ∀ x, x ∈ [45, 43, 95, 61] → ∃ i, i < 4 ∧ x = Mine.mk i := by
    intro x hx
    simp only [List.mem_cons, List.not_mem_nil, or_false] at hx
    rcases hx with rfl | rfl | rfl | rfl
    · exact ⟨0, by decide, rfl⟩
    · exact ⟨1, by decide, rfl⟩
    · exact ⟨2, by decide, rfl⟩
    · exact ⟨3, by decide, rfl⟩
  obtain ⟨i, hi, ei⟩ := key a (h.m a (by simp))
  obtain ⟨j, hj, ej⟩ := key b (h.m b (by simp))
  obtain ⟨k, hk, ek⟩ := key c (h.m c (by simp))
  obtain ⟨l, hl, el⟩ := key d (h.m d (by simp))
  exact ⟨i, j, k, l, hi, hj, hk, hl, ei, ej, ek, el⟩
theorem RunOK.no {r : List Nat} (h : RunOK r) {x : Nat} (hx : x ∈ [45, 43, 95, 61]) : x ∉ r := fun q => by
  have := h.ab x q
  simp only [List.mem_cons, List.not_mem_nil, or_false] at hx this
  omega
theorem RunOK.slash {r : List Nat} (h : RunOK r) : 47 ∉ r := fun q => by
  have := h.ab 47 q
  simp at this
theorem nm_slash {a b c d : Nat} {r0 r1 r2 : List Nat} (h : MkOK a b c d) (h0 : RunOK r0) (h1 : RunOK r1) (h2 : RunOK r2) : 47 ∉ nm7 a b c d r0 r1 r2 := by
  have key : ∀ x, x ∈ [45, 43, 95, 61] → ¬ 47 = x := by
    intro x hx
    simp only [List.mem_cons, List.not_mem_nil, or_false] at hx
    omega
  unfold nm7
  simp only [List.mem_cons, List.mem_append, List.not_mem_nil, or_false, not_or]
  exact ⟨key a (h.m a (by simp)), h0.slash, key b (h.m b (by simp)), h1.slash, key c (h.m c (by simp)), h2.slash, key d (h.m d (by simp))⟩
theorem nm_len {a b c d : Nat} {r0 r1 r2 : List Nat} (h0 : RunOK r0) (h1 : RunOK r1) (h2 : RunOK r2) : (nm7 a b c d r0 r1 r2).length ≤ 13 := by
  have := h0.len
  have := h1.len
  have := h2.len
  unfold nm7
  simp
  omega
theorem stars_laid (m : Nat) {a b c d : Nat} : callF fns07 (m + 1) 32 [.list [.str [a], .str [b], .str [c], .str [d]], .list [.str [42], .str [42], .str [42]]] = some (.str (laidT [a] [b] [c] [d] [42] [42] [42])) := laid_ok m (by unfold laidT; simp)
theorem name_laid (m : Nat) {a b c d : Nat} {r0 r1 r2 : List Nat} (h0 : RunOK r0) (h1 : RunOK r1) (h2 : RunOK r2) : callF fns07 (m + 1) 32 [.list [.str [a], .str [b], .str [c], .str [d]], .list [.str r0, .str r1, .str r2]] = some (.str (nm7 a b c d r0 r1 r2)) := by
  have := laid_ok m (m0 := [a]) (m1 := [b]) (m2 := [c]) (m3 := [d]) (r0 := r0) (r1 := r1) (r2 := r2) (by rw [laid_nm]; have := nm_len (a := a) (b := b) (c := c) (d := d) h0 h1 h2; omega)
  rwa [laid_nm] at this
theorem tr_ok' (m : Nat) {a b c d : Nat} (h : MkOK a b c d) : callF fns07 (m + 2) 1 [.str (laidT [a] [b] [c] [d] [42] [42] [42]), .tok 0, .str [46]] = some (parts7 a b c d) := by
  obtain ⟨i, j, k, l, hi, hj, hk, hl, rfl, rfl, rfl, rfl⟩ := h.mk4
  exact tr_ok m hi hj hk hl
theorem told_ok (m : Nat) {a b c d a' b' c' d' : Nat} {r0 r1 r2 : List Nat} (h : MkOK a b c d) (h0 : RunOK r0) (h1 : RunOK r1) (h2 : RunOK r2) :
    callF fns07 (m + 1) 31 [parts7 a b c d, .tok 0, .str (nm7 a' b' c' d' r0 r1 r2)] = some (if [[a], [b], [c], [d]] = [[a'], [b'], [c'], [d']] then .list [.str r0, .str r1, .str r2] else .none) := by
  have hb := h.m b (by simp)
  have hc := h.m c (by simp)
  have hd := h.m d (by simp)
  have e := runs_ok m (m0 := a) (m1 := b) (m2 := c) (m3 := d) (d := a') (u := r0 ++ b' :: (r1 ++ c' :: (r2 ++ [d']))) (by have := nm_len (a := a') (b := b') (c := c') (d := d') h0 h1 h2; unfold nm7 at this; rw [List.length_cons] at this; omega)
  have e2 : runsP a b c d (a' :: (r0 ++ b' :: (r1 ++ c' :: (r2 ++ [d'])))) = if a' = a then runsGo [b, c, d] (r0 ++ b' :: (r1 ++ c' :: (r2 ++ [d']))) [] else none := rfl
  rw [runs_same ⟨h0.no hb, h1.no hb, h2.no hb⟩ ⟨h1.no hc, h2.no hc⟩ (h2.no hd)] at e2
  rw [e2] at e
  unfold nm7
  rw [e]
  have key : ([[a], [b], [c], [d]] = [[a'], [b'], [c'], [d']]) ↔ (a' = a ∧ b' = b ∧ c' = c ∧ d' = d) := by
    simp only [List.cons.injEq, and_true]
    exact ⟨fun ⟨p, q, r, s⟩ => ⟨p.symm, q.symm, r.symm, s.symm⟩, fun ⟨p, q, r, s⟩ => ⟨p.symm, q.symm, r.symm, s.symm⟩⟩
  by_cases hh : a' = a ∧ b' = b ∧ c' = c ∧ d' = d
  · rw [if_pos (key.mpr hh), if_pos hh.1, if_pos hh.2]; rfl
  · rw [if_neg fun q => hh (key.mp q)]
    by_cases h1 : a' = a
    · rw [if_pos h1, if_neg fun q => hh ⟨h1, q⟩]; rfl
    · rw [if_neg h1]; rfl
end Mine
end P07gx
section P07hx
open PySem PySem.StrLaws PySem.Builtin PySem.Builtin.Str
namespace Mine
noncomputable def STl : List D := [.str [42], .str [42], .str [42]]
theorem o_stars : opF .mul [.list [.str [42]], .int 3] = some (.own STl) := rfl
theorem o_nn1 : opF .isnot [.none, .none] = some (.val (.bool false)) := rfl
theorem o_nn2 : opF .is_ [.none, .none] = some (.val (.bool true)) := rfl
theorem o_nb {b : Bool} : opF .ne [.bool b, .bool b] = some (.val (.bool false)) := by cases b <;> rfl
section
variable {cf : Nat → List D → Option D} {tl : List Slot} {x0 x3 x4 x5 x11 x13 x14 x15 x16 x17 x18 x19 : Slot} {FS SO : List D} {MK RU L PT : D} {fo path nm pt : List Nat}
theorem inner_no (c1 : cf 32 [.list SO, .list STl] = some (.str pt)) (c2 : cf 1 [.str pt, .tok 0, .str [46]] = some PT) (c3 : cf 8 [.str path] = some (.str nm)) (c4 : cf 31 [PT, .tok 0, .str nm] = some .none) (e5 : opF .eq [.list SO, MK] = some (.val (.bool false))) :
    ex cf l7i3 (x0 :: .val (.tok 0) :: .own FS :: x3 :: x4 :: x5 :: .val (.str fo) :: .val MK :: .val RU :: .val L :: .val (.str path) :: x11 :: .own SO :: x13 :: x14 :: x15 :: x16 :: x17 :: x18 :: x19 :: tl) =
      some (x0 :: .val (.tok 0) :: .own FS :: x3 :: x4 :: x5 :: .val (.str fo) :: .val MK :: .val RU :: .val L :: .val (.str path) :: x11 :: .val (.list SO) :: .val PT :: .val .none :: x15 :: x16 :: x17 :: x18 :: x19 :: tl, .cont) := by
  have m1 := o_stars
  have m2 := o_nn1
  have m3 := o_nn2
  have m4 := o_nb (b := false)
  generalize STl = S3 at *
  unfold l7i3
  refine R_seq (R_seq (R_fz rfl rfl) (R_next (R_assign (d := PT) ?a1 rfl))) (R_next (R_seq (R_assign (d := .none) ?a2 rfl) (R_next (R_seq (R_ite (t := false) ?a3 (R_ff R_skip)) (R_next (R_seq (R_ite (t := true) ?a4 (R_tt (R_seq R_cont R_out_cont))) R_out_cont))))))
  case a1 => (((try simp (config := {failIfUnchanged := false}) only [ev1_eq, evT_eq, evI_eq, one_some, theItems_some, truthR_some, evq_const, evq_var, evq_op, evq_nil, evq_cons, evq_star, evq_and, evq_or, evq_not, evq_ite, evq_call, evq_tup, evq_list, evq_comp, evq_comp2, evq_comp3, evq_mapF, evq_seqI, evq_rangeI, evq_enumI, evq_setI, fzAll, ownAt, Mine.R.ds, Mine.R.fz, Mine.D.truth, List.map_cons, List.map_nil, List.getElem?_cons_zero, List.getElem?_cons_succ, List.getElem?_nil, Option.map_some, Option.map_none, List.set_cons_zero, List.set_cons_succ, List.getElem?_set, List.length_set, Nat.reduceLT, eq_str, ne_str, notin_str, in_str1, replace1, List.cons.injEq, and_true, and_false, true_and, false_and, Nat.reduceEqDiff, decide_true, decide_false, reduceCtorEq, Bool.not_true, Bool.not_false, Nat.reduceAdd, List.isEmpty_cons, List.isEmpty_nil, Nat.reduceLeDiff, Nat.zero_le, Option.isSome_some, Option.isSome_none, noApp_eq, List.all_cons, List.all_nil, appOK_val, appOK_own, appOK_unset, appOK_app, Bool.and_true, Bool.true_and, reduceIte, List.mem_cons, List.not_mem_nil, or_false, false_or, or_true, true_or, itemsOf, Option.bind_some, compGo, turnD_tt, o_len, o_lens, o_sub, o_neg, o_addi, o_startswith, o_endswith, le_lim, lt_lim, List.length_cons, List.length_nil, Nat.zero_add, *]) <;> rfl))
  case a2 => (((try simp (config := {failIfUnchanged := false}) only [ev1_eq, evT_eq, evI_eq, one_some, theItems_some, truthR_some, evq_const, evq_var, evq_op, evq_nil, evq_cons, evq_star, evq_and, evq_or, evq_not, evq_ite, evq_call, evq_tup, evq_list, evq_comp, evq_comp2, evq_comp3, evq_mapF, evq_seqI, evq_rangeI, evq_enumI, evq_setI, fzAll, ownAt, Mine.R.ds, Mine.R.fz, Mine.D.truth, List.map_cons, List.map_nil, List.getElem?_cons_zero, List.getElem?_cons_succ, List.getElem?_nil, Option.map_some, Option.map_none, List.set_cons_zero, List.set_cons_succ, List.getElem?_set, List.length_set, Nat.reduceLT, eq_str, ne_str, notin_str, in_str1, replace1, List.cons.injEq, and_true, and_false, true_and, false_and, Nat.reduceEqDiff, decide_true, decide_false, reduceCtorEq, Bool.not_true, Bool.not_false, Nat.reduceAdd, List.isEmpty_cons, List.isEmpty_nil, Nat.reduceLeDiff, Nat.zero_le, Option.isSome_some, Option.isSome_none, noApp_eq, List.all_cons, List.all_nil, appOK_val, appOK_own, appOK_unset, appOK_app, Bool.and_true, Bool.true_and, reduceIte, List.mem_cons, List.not_mem_nil, or_false, false_or, or_true, true_or, itemsOf, Option.bind_some, compGo, turnD_tt, o_len, o_lens, o_sub, o_neg, o_addi, o_startswith, o_endswith, le_lim, lt_lim, List.length_cons, List.length_nil, Nat.zero_add, *]) <;> rfl))
  case a3 => (((try simp (config := {failIfUnchanged := false}) only [ev1_eq, evT_eq, evI_eq, one_some, theItems_some, truthR_some, evq_const, evq_var, evq_op, evq_nil, evq_cons, evq_star, evq_and, evq_or, evq_not, evq_ite, evq_call, evq_tup, evq_list, evq_comp, evq_comp2, evq_comp3, evq_mapF, evq_seqI, evq_rangeI, evq_enumI, evq_setI, fzAll, ownAt, Mine.R.ds, Mine.R.fz, Mine.D.truth, List.map_cons, List.map_nil, List.getElem?_cons_zero, List.getElem?_cons_succ, List.getElem?_nil, Option.map_some, Option.map_none, List.set_cons_zero, List.set_cons_succ, List.getElem?_set, List.length_set, Nat.reduceLT, eq_str, ne_str, notin_str, in_str1, replace1, List.cons.injEq, and_true, and_false, true_and, false_and, Nat.reduceEqDiff, decide_true, decide_false, reduceCtorEq, Bool.not_true, Bool.not_false, Nat.reduceAdd, List.isEmpty_cons, List.isEmpty_nil, Nat.reduceLeDiff, Nat.zero_le, Option.isSome_some, Option.isSome_none, noApp_eq, List.all_cons, List.all_nil, appOK_val, appOK_own, appOK_unset, appOK_app, Bool.and_true, Bool.true_and, reduceIte, List.mem_cons, List.not_mem_nil, or_false, false_or, or_true, true_or, itemsOf, Option.bind_some, compGo, turnD_tt, o_len, o_lens, o_sub, o_neg, o_addi, o_startswith, o_endswith, le_lim, lt_lim, List.length_cons, List.length_nil, Nat.zero_add, *]) <;> rfl))
  case a4 => (((try simp (config := {failIfUnchanged := false}) only [ev1_eq, evT_eq, evI_eq, one_some, theItems_some, truthR_some, evq_const, evq_var, evq_op, evq_nil, evq_cons, evq_star, evq_and, evq_or, evq_not, evq_ite, evq_call, evq_tup, evq_list, evq_comp, evq_comp2, evq_comp3, evq_mapF, evq_seqI, evq_rangeI, evq_enumI, evq_setI, fzAll, ownAt, Mine.R.ds, Mine.R.fz, Mine.D.truth, List.map_cons, List.map_nil, List.getElem?_cons_zero, List.getElem?_cons_succ, List.getElem?_nil, Option.map_some, Option.map_none, List.set_cons_zero, List.set_cons_succ, List.getElem?_set, List.length_set, Nat.reduceLT, eq_str, ne_str, notin_str, in_str1, replace1, List.cons.injEq, and_true, and_false, true_and, false_and, Nat.reduceEqDiff, decide_true, decide_false, reduceCtorEq, Bool.not_true, Bool.not_false, Nat.reduceAdd, List.isEmpty_cons, List.isEmpty_nil, Nat.reduceLeDiff, Nat.zero_le, Option.isSome_some, Option.isSome_none, noApp_eq, List.all_cons, List.all_nil, appOK_val, appOK_own, appOK_unset, appOK_app, Bool.and_true, Bool.true_and, reduceIte, List.mem_cons, List.not_mem_nil, or_false, false_or, or_true, true_or, itemsOf, Option.bind_some, compGo, turnD_tt, o_len, o_lens, o_sub, o_neg, o_addi, o_startswith, o_endswith, le_lim, lt_lim, List.length_cons, List.length_nil, Nat.zero_add, *]) <;> rfl))
theorem inner_yes {RUl RVl : List D} {O PT2 : D} {bj n2 mv pt2 rl wy : List Nat} {b : Bool} (c1 : cf 32 [.list SO, .list STl] = some (.str pt)) (c2 : cf 1 [.str pt, .tok 0, .str [46]] = some PT) (c3 : cf 8 [.str path] = some (.str nm)) (c4 : cf 31 [PT, .tok 0, .str nm] = some (.list RUl)) (e5 : opF .eq [.list SO, MK] = some (.val (.bool true)))
    (n1 : opF .ne [.list RUl, .list RUl] = some (.val (.bool false))) (s1 : opF .slice3 [.list RUl, .none, .none, .int (-1)] = some (.own RVl)) (s2 : opF .slice3 [.list RVl, .none, .none, .int (-1)] = some (.own RUl)) (n2' : opF .ne [.list RVl, .list RVl] = some (.val (.bool false)))
    (ho : ∀ y19 : Slot, ev1 cf l7O (x0 :: .val (.tok 0) :: .own FS :: x3 :: x4 :: x5 :: .val (.str fo) :: .val MK :: .val (.list RUl) :: .val L :: .val (.str path) :: x11 :: .val (.list SO) :: .val PT :: .val (.list RUl) :: x15 :: x16 :: x17 :: x18 :: x19 :: tl) = some O)
    (hb : ev1 cf l7B (x0 :: .val (.tok 0) :: .own FS :: x3 :: x4 :: x5 :: .val (.str fo) :: .val MK :: .val (.list RUl) :: .val L :: .val (.str path) :: x11 :: .val (.list SO) :: .val PT :: .val (.list RUl) :: .val O :: x16 :: x17 :: x18 :: x19 :: tl) = some (.str bj))
    (c5 : cf 32 [O, .list RVl] = some (.str n2)) (c6 : cf 4 [.str bj, .str n2] = some (.str mv)) (c7 : cf 32 [O, .list STl] = some (.str pt2)) (c8 : cf 1 [.str pt2, .tok 0, .str [46]] = some PT2) (c9 : cf 8 [.str mv] = some (.str n2)) (c10 : cf 31 [PT2, .tok 0, .str n2] = some (.list RVl))
    (d1 : opF .ne [O, MK] = some (.val (.bool b))) (c11 : b = true → cf 31 [PT, .tok 0, .str n2] = some .none) (c12 : cf 6 [.str mv] = some (.str bj)) (c13 : cf 11 [.str fo, .str bj] = some (.str rl)) (c14 : cf 4 [.str bj, .str rl] = some (.str wy)) (c15 : cf 9 [.str wy] = some (.str fo))
    (c16 : cf 32 [.list SO, .list RUl] = some (.str nm)) (c17 : cf 4 [.str fo, .str nm] = some (.str path)) :
    ex cf l7i3 (x0 :: .val (.tok 0) :: .own FS :: x3 :: x4 :: x5 :: .val (.str fo) :: .val MK :: .val (.list RUl) :: .val L :: .val (.str path) :: x11 :: .own SO :: x13 :: x14 :: x15 :: x16 :: x17 :: x18 :: x19 :: tl) =
      some (x0 :: .val (.tok 0) :: .own FS :: x3 :: x4 :: x5 :: .val (.str fo) :: .val MK :: .val (.list RUl) :: .val L :: .val (.str path) :: x11 :: .val (.list SO) :: .val PT :: .val (.list RUl) :: .val O :: .val (.str bj) :: .val (.str mv) :: .val (.list RVl) :: .val (.str wy) :: tl, .next) := by
  have m1 := o_stars
  have m4 := o_nb (b := true)
  have i1 : opF .isnot [.list RUl, .none] = some (.val (.bool true)) := rfl
  have i2 : opF .is_ [.list RUl, .none] = some (.val (.bool false)) := rfl
  have m5 := o_nn1
  have k1 : opF .ne [.str fo, .str fo] = some (.val (.bool false)) := by rw [ne_str, decide_eq_true rfl]; rfl
  have k2 : opF .ne [.str path, .str path] = some (.val (.bool false)) := by rw [ne_str, decide_eq_true rfl]; rfl
  generalize STl = S3 at *
  have ho := ho .unset
  unfold l7O at ho
  unfold l7B at hb
  unfold l7i3
  refine R_seq (R_seq (R_fz rfl rfl) (R_next (R_assign (d := PT) ?a1 rfl))) (R_next (R_seq (R_assign (d := .list RUl) ?a2 rfl) (R_next (R_seq (R_ite (t := false) ?a3 (R_ff R_skip)) (R_next (R_seq (R_ite (t := false) ?a4 (R_ff R_skip)) (R_next (R_seq (R_ite (t := false) ?a5 (R_ff R_skip)) (R_next
    (R_seq (R_assign ho rfl) (R_next (R_seq (R_assign hb rfl) (R_next (R_seq (R_assign (d := .str mv) ?a6 rfl) (R_next (R_seq (R_assign (d := .list RVl) ?a7 rfl) (R_next (R_seq (R_ite (t := false) ?a8 (R_ff R_skip)) (R_next (R_seq (R_ite (t := false) ?a9 (R_ff R_skip)) (R_next
    (R_seq (R_assign (d := .str wy) ?a10 rfl) (R_next (R_seq (R_seq (R_fz_no rfl) (R_next (R_ite (t := false) ?a11 (R_ff R_skip)))) (R_next R_skip)))))))))))))))))))))))))
  case a1 => clear ho hb; (((try simp (config := {failIfUnchanged := false}) only [ev1_eq, evT_eq, evI_eq, one_some, theItems_some, truthR_some, evq_const, evq_var, evq_op, evq_nil, evq_cons, evq_star, evq_and, evq_or, evq_not, evq_ite, evq_call, evq_tup, evq_list, evq_comp, evq_comp2, evq_comp3, evq_mapF, evq_seqI, evq_rangeI, evq_enumI, evq_setI, fzAll, ownAt, Mine.R.ds, Mine.R.fz, Mine.D.truth, List.map_cons, List.map_nil, List.getElem?_cons_zero, List.getElem?_cons_succ, List.getElem?_nil, Option.map_some, Option.map_none, List.set_cons_zero, List.set_cons_succ, List.getElem?_set, List.length_set, Nat.reduceLT, eq_str, ne_str, notin_str, in_str1, replace1, List.cons.injEq, and_true, and_false, true_and, false_and, Nat.reduceEqDiff, decide_true, decide_false, reduceCtorEq, Bool.not_true, Bool.not_false, Nat.reduceAdd, List.isEmpty_cons, List.isEmpty_nil, Nat.reduceLeDiff, Nat.zero_le, Option.isSome_some, Option.isSome_none, noApp_eq, List.all_cons, List.all_nil, appOK_val, appOK_own, appOK_unset, appOK_app, Bool.and_true, Bool.true_and, reduceIte, List.mem_cons, List.not_mem_nil, or_false, false_or, or_true, true_or, itemsOf, Option.bind_some, compGo, turnD_tt, o_len, o_lens, o_sub, o_neg, o_addi, o_startswith, o_endswith, le_lim, lt_lim, List.length_cons, List.length_nil, Nat.zero_add, *]) <;> rfl))
  case a2 => clear ho hb; (((try simp (config := {failIfUnchanged := false}) only [ev1_eq, evT_eq, evI_eq, one_some, theItems_some, truthR_some, evq_const, evq_var, evq_op, evq_nil, evq_cons, evq_star, evq_and, evq_or, evq_not, evq_ite, evq_call, evq_tup, evq_list, evq_comp, evq_comp2, evq_comp3, evq_mapF, evq_seqI, evq_rangeI, evq_enumI, evq_setI, fzAll, ownAt, Mine.R.ds, Mine.R.fz, Mine.D.truth, List.map_cons, List.map_nil, List.getElem?_cons_zero, List.getElem?_cons_succ, List.getElem?_nil, Option.map_some, Option.map_none, List.set_cons_zero, List.set_cons_succ, List.getElem?_set, List.length_set, Nat.reduceLT, eq_str, ne_str, notin_str, in_str1, replace1, List.cons.injEq, and_true, and_false, true_and, false_and, Nat.reduceEqDiff, decide_true, decide_false, reduceCtorEq, Bool.not_true, Bool.not_false, Nat.reduceAdd, List.isEmpty_cons, List.isEmpty_nil, Nat.reduceLeDiff, Nat.zero_le, Option.isSome_some, Option.isSome_none, noApp_eq, List.all_cons, List.all_nil, appOK_val, appOK_own, appOK_unset, appOK_app, Bool.and_true, Bool.true_and, reduceIte, List.mem_cons, List.not_mem_nil, or_false, false_or, or_true, true_or, itemsOf, Option.bind_some, compGo, turnD_tt, o_len, o_lens, o_sub, o_neg, o_addi, o_startswith, o_endswith, le_lim, lt_lim, List.length_cons, List.length_nil, Nat.zero_add, *]) <;> rfl))
  case a3 => clear ho hb; (((try simp (config := {failIfUnchanged := false}) only [ev1_eq, evT_eq, evI_eq, one_some, theItems_some, truthR_some, evq_const, evq_var, evq_op, evq_nil, evq_cons, evq_star, evq_and, evq_or, evq_not, evq_ite, evq_call, evq_tup, evq_list, evq_comp, evq_comp2, evq_comp3, evq_mapF, evq_seqI, evq_rangeI, evq_enumI, evq_setI, fzAll, ownAt, Mine.R.ds, Mine.R.fz, Mine.D.truth, List.map_cons, List.map_nil, List.getElem?_cons_zero, List.getElem?_cons_succ, List.getElem?_nil, Option.map_some, Option.map_none, List.set_cons_zero, List.set_cons_succ, List.getElem?_set, List.length_set, Nat.reduceLT, eq_str, ne_str, notin_str, in_str1, replace1, List.cons.injEq, and_true, and_false, true_and, false_and, Nat.reduceEqDiff, decide_true, decide_false, reduceCtorEq, Bool.not_true, Bool.not_false, Nat.reduceAdd, List.isEmpty_cons, List.isEmpty_nil, Nat.reduceLeDiff, Nat.zero_le, Option.isSome_some, Option.isSome_none, noApp_eq, List.all_cons, List.all_nil, appOK_val, appOK_own, appOK_unset, appOK_app, Bool.and_true, Bool.true_and, reduceIte, List.mem_cons, List.not_mem_nil, or_false, false_or, or_true, true_or, itemsOf, Option.bind_some, compGo, turnD_tt, o_len, o_lens, o_sub, o_neg, o_addi, o_startswith, o_endswith, le_lim, lt_lim, List.length_cons, List.length_nil, Nat.zero_add, *]) <;> rfl))
  case a4 => clear ho hb; (((try simp (config := {failIfUnchanged := false}) only [ev1_eq, evT_eq, evI_eq, one_some, theItems_some, truthR_some, evq_const, evq_var, evq_op, evq_nil, evq_cons, evq_star, evq_and, evq_or, evq_not, evq_ite, evq_call, evq_tup, evq_list, evq_comp, evq_comp2, evq_comp3, evq_mapF, evq_seqI, evq_rangeI, evq_enumI, evq_setI, fzAll, ownAt, Mine.R.ds, Mine.R.fz, Mine.D.truth, List.map_cons, List.map_nil, List.getElem?_cons_zero, List.getElem?_cons_succ, List.getElem?_nil, Option.map_some, Option.map_none, List.set_cons_zero, List.set_cons_succ, List.getElem?_set, List.length_set, Nat.reduceLT, eq_str, ne_str, notin_str, in_str1, replace1, List.cons.injEq, and_true, and_false, true_and, false_and, Nat.reduceEqDiff, decide_true, decide_false, reduceCtorEq, Bool.not_true, Bool.not_false, Nat.reduceAdd, List.isEmpty_cons, List.isEmpty_nil, Nat.reduceLeDiff, Nat.zero_le, Option.isSome_some, Option.isSome_none, noApp_eq, List.all_cons, List.all_nil, appOK_val, appOK_own, appOK_unset, appOK_app, Bool.and_true, Bool.true_and, reduceIte, List.mem_cons, List.not_mem_nil, or_false, false_or, or_true, true_or, itemsOf, Option.bind_some, compGo, turnD_tt, o_len, o_lens, o_sub, o_neg, o_addi, o_startswith, o_endswith, le_lim, lt_lim, List.length_cons, List.length_nil, Nat.zero_add, *]) <;> rfl))
  case a5 => clear ho hb; (((try simp (config := {failIfUnchanged := false}) only [ev1_eq, evT_eq, evI_eq, one_some, theItems_some, truthR_some, evq_const, evq_var, evq_op, evq_nil, evq_cons, evq_star, evq_and, evq_or, evq_not, evq_ite, evq_call, evq_tup, evq_list, evq_comp, evq_comp2, evq_comp3, evq_mapF, evq_seqI, evq_rangeI, evq_enumI, evq_setI, fzAll, ownAt, Mine.R.ds, Mine.R.fz, Mine.D.truth, List.map_cons, List.map_nil, List.getElem?_cons_zero, List.getElem?_cons_succ, List.getElem?_nil, Option.map_some, Option.map_none, List.set_cons_zero, List.set_cons_succ, List.getElem?_set, List.length_set, Nat.reduceLT, eq_str, ne_str, notin_str, in_str1, replace1, List.cons.injEq, and_true, and_false, true_and, false_and, Nat.reduceEqDiff, decide_true, decide_false, reduceCtorEq, Bool.not_true, Bool.not_false, Nat.reduceAdd, List.isEmpty_cons, List.isEmpty_nil, Nat.reduceLeDiff, Nat.zero_le, Option.isSome_some, Option.isSome_none, noApp_eq, List.all_cons, List.all_nil, appOK_val, appOK_own, appOK_unset, appOK_app, Bool.and_true, Bool.true_and, reduceIte, List.mem_cons, List.not_mem_nil, or_false, false_or, or_true, true_or, itemsOf, Option.bind_some, compGo, turnD_tt, o_len, o_lens, o_sub, o_neg, o_addi, o_startswith, o_endswith, le_lim, lt_lim, List.length_cons, List.length_nil, Nat.zero_add, *]) <;> rfl))
  case a6 => clear ho hb; (((try simp (config := {failIfUnchanged := false}) only [ev1_eq, evT_eq, evI_eq, one_some, theItems_some, truthR_some, evq_const, evq_var, evq_op, evq_nil, evq_cons, evq_star, evq_and, evq_or, evq_not, evq_ite, evq_call, evq_tup, evq_list, evq_comp, evq_comp2, evq_comp3, evq_mapF, evq_seqI, evq_rangeI, evq_enumI, evq_setI, fzAll, ownAt, Mine.R.ds, Mine.R.fz, Mine.D.truth, List.map_cons, List.map_nil, List.getElem?_cons_zero, List.getElem?_cons_succ, List.getElem?_nil, Option.map_some, Option.map_none, List.set_cons_zero, List.set_cons_succ, List.getElem?_set, List.length_set, Nat.reduceLT, eq_str, ne_str, notin_str, in_str1, replace1, List.cons.injEq, and_true, and_false, true_and, false_and, Nat.reduceEqDiff, decide_true, decide_false, reduceCtorEq, Bool.not_true, Bool.not_false, Nat.reduceAdd, List.isEmpty_cons, List.isEmpty_nil, Nat.reduceLeDiff, Nat.zero_le, Option.isSome_some, Option.isSome_none, noApp_eq, List.all_cons, List.all_nil, appOK_val, appOK_own, appOK_unset, appOK_app, Bool.and_true, Bool.true_and, reduceIte, List.mem_cons, List.not_mem_nil, or_false, false_or, or_true, true_or, itemsOf, Option.bind_some, compGo, turnD_tt, o_len, o_lens, o_sub, o_neg, o_addi, o_startswith, o_endswith, le_lim, lt_lim, List.length_cons, List.length_nil, Nat.zero_add, *]) <;> rfl))
  case a7 => clear ho hb; (((try simp (config := {failIfUnchanged := false}) only [ev1_eq, evT_eq, evI_eq, one_some, theItems_some, truthR_some, evq_const, evq_var, evq_op, evq_nil, evq_cons, evq_star, evq_and, evq_or, evq_not, evq_ite, evq_call, evq_tup, evq_list, evq_comp, evq_comp2, evq_comp3, evq_mapF, evq_seqI, evq_rangeI, evq_enumI, evq_setI, fzAll, ownAt, Mine.R.ds, Mine.R.fz, Mine.D.truth, List.map_cons, List.map_nil, List.getElem?_cons_zero, List.getElem?_cons_succ, List.getElem?_nil, Option.map_some, Option.map_none, List.set_cons_zero, List.set_cons_succ, List.getElem?_set, List.length_set, Nat.reduceLT, eq_str, ne_str, notin_str, in_str1, replace1, List.cons.injEq, and_true, and_false, true_and, false_and, Nat.reduceEqDiff, decide_true, decide_false, reduceCtorEq, Bool.not_true, Bool.not_false, Nat.reduceAdd, List.isEmpty_cons, List.isEmpty_nil, Nat.reduceLeDiff, Nat.zero_le, Option.isSome_some, Option.isSome_none, noApp_eq, List.all_cons, List.all_nil, appOK_val, appOK_own, appOK_unset, appOK_app, Bool.and_true, Bool.true_and, reduceIte, List.mem_cons, List.not_mem_nil, or_false, false_or, or_true, true_or, itemsOf, Option.bind_some, compGo, turnD_tt, o_len, o_lens, o_sub, o_neg, o_addi, o_startswith, o_endswith, le_lim, lt_lim, List.length_cons, List.length_nil, Nat.zero_add, *]) <;> rfl))
  case a8 => clear ho hb; (((try simp (config := {failIfUnchanged := false}) only [ev1_eq, evT_eq, evI_eq, one_some, theItems_some, truthR_some, evq_const, evq_var, evq_op, evq_nil, evq_cons, evq_star, evq_and, evq_or, evq_not, evq_ite, evq_call, evq_tup, evq_list, evq_comp, evq_comp2, evq_comp3, evq_mapF, evq_seqI, evq_rangeI, evq_enumI, evq_setI, fzAll, ownAt, Mine.R.ds, Mine.R.fz, Mine.D.truth, List.map_cons, List.map_nil, List.getElem?_cons_zero, List.getElem?_cons_succ, List.getElem?_nil, Option.map_some, Option.map_none, List.set_cons_zero, List.set_cons_succ, List.getElem?_set, List.length_set, Nat.reduceLT, eq_str, ne_str, notin_str, in_str1, replace1, List.cons.injEq, and_true, and_false, true_and, false_and, Nat.reduceEqDiff, decide_true, decide_false, reduceCtorEq, Bool.not_true, Bool.not_false, Nat.reduceAdd, List.isEmpty_cons, List.isEmpty_nil, Nat.reduceLeDiff, Nat.zero_le, Option.isSome_some, Option.isSome_none, noApp_eq, List.all_cons, List.all_nil, appOK_val, appOK_own, appOK_unset, appOK_app, Bool.and_true, Bool.true_and, reduceIte, List.mem_cons, List.not_mem_nil, or_false, false_or, or_true, true_or, itemsOf, Option.bind_some, compGo, turnD_tt, o_len, o_lens, o_sub, o_neg, o_addi, o_startswith, o_endswith, le_lim, lt_lim, List.length_cons, List.length_nil, Nat.zero_add, *]) <;> rfl))
  case a9 =>
    clear ho hb
    cases b with
    | true =>
      have c11 := c11 rfl
      (((try simp (config := {failIfUnchanged := false}) only [ev1_eq, evT_eq, evI_eq, one_some, theItems_some, truthR_some, evq_const, evq_var, evq_op, evq_nil, evq_cons, evq_star, evq_and, evq_or, evq_not, evq_ite, evq_call, evq_tup, evq_list, evq_comp, evq_comp2, evq_comp3, evq_mapF, evq_seqI, evq_rangeI, evq_enumI, evq_setI, fzAll, ownAt, Mine.R.ds, Mine.R.fz, Mine.D.truth, List.map_cons, List.map_nil, List.getElem?_cons_zero, List.getElem?_cons_succ, List.getElem?_nil, Option.map_some, Option.map_none, List.set_cons_zero, List.set_cons_succ, List.getElem?_set, List.length_set, Nat.reduceLT, eq_str, ne_str, notin_str, in_str1, replace1, List.cons.injEq, and_true, and_false, true_and, false_and, Nat.reduceEqDiff, decide_true, decide_false, reduceCtorEq, Bool.not_true, Bool.not_false, Nat.reduceAdd, List.isEmpty_cons, List.isEmpty_nil, Nat.reduceLeDiff, Nat.zero_le, Option.isSome_some, Option.isSome_none, noApp_eq, List.all_cons, List.all_nil, appOK_val, appOK_own, appOK_unset, appOK_app, Bool.and_true, Bool.true_and, reduceIte, List.mem_cons, List.not_mem_nil, or_false, false_or, or_true, true_or, itemsOf, Option.bind_some, compGo, turnD_tt, o_len, o_lens, o_sub, o_neg, o_addi, o_startswith, o_endswith, le_lim, lt_lim, List.length_cons, List.length_nil, Nat.zero_add, *]) <;> rfl))
    | false =>
      clear c11
      (((try simp (config := {failIfUnchanged := false}) only [ev1_eq, evT_eq, evI_eq, one_some, theItems_some, truthR_some, evq_const, evq_var, evq_op, evq_nil, evq_cons, evq_star, evq_and, evq_or, evq_not, evq_ite, evq_call, evq_tup, evq_list, evq_comp, evq_comp2, evq_comp3, evq_mapF, evq_seqI, evq_rangeI, evq_enumI, evq_setI, fzAll, ownAt, Mine.R.ds, Mine.R.fz, Mine.D.truth, List.map_cons, List.map_nil, List.getElem?_cons_zero, List.getElem?_cons_succ, List.getElem?_nil, Option.map_some, Option.map_none, List.set_cons_zero, List.set_cons_succ, List.getElem?_set, List.length_set, Nat.reduceLT, eq_str, ne_str, notin_str, in_str1, replace1, List.cons.injEq, and_true, and_false, true_and, false_and, Nat.reduceEqDiff, decide_true, decide_false, reduceCtorEq, Bool.not_true, Bool.not_false, Nat.reduceAdd, List.isEmpty_cons, List.isEmpty_nil, Nat.reduceLeDiff, Nat.zero_le, Option.isSome_some, Option.isSome_none, noApp_eq, List.all_cons, List.all_nil, appOK_val, appOK_own, appOK_unset, appOK_app, Bool.and_true, Bool.true_and, reduceIte, List.mem_cons, List.not_mem_nil, or_false, false_or, or_true, true_or, itemsOf, Option.bind_some, compGo, turnD_tt, o_len, o_lens, o_sub, o_neg, o_addi, o_startswith, o_endswith, le_lim, lt_lim, List.length_cons, List.length_nil, Nat.zero_add, *]) <;> rfl))
  case a10 => clear ho hb c11; (((try simp (config := {failIfUnchanged := false}) only [ev1_eq, evT_eq, evI_eq, one_some, theItems_some, truthR_some, evq_const, evq_var, evq_op, evq_nil, evq_cons, evq_star, evq_and, evq_or, evq_not, evq_ite, evq_call, evq_tup, evq_list, evq_comp, evq_comp2, evq_comp3, evq_mapF, evq_seqI, evq_rangeI, evq_enumI, evq_setI, fzAll, ownAt, Mine.R.ds, Mine.R.fz, Mine.D.truth, List.map_cons, List.map_nil, List.getElem?_cons_zero, List.getElem?_cons_succ, List.getElem?_nil, Option.map_some, Option.map_none, List.set_cons_zero, List.set_cons_succ, List.getElem?_set, List.length_set, Nat.reduceLT, eq_str, ne_str, notin_str, in_str1, replace1, List.cons.injEq, and_true, and_false, true_and, false_and, Nat.reduceEqDiff, decide_true, decide_false, reduceCtorEq, Bool.not_true, Bool.not_false, Nat.reduceAdd, List.isEmpty_cons, List.isEmpty_nil, Nat.reduceLeDiff, Nat.zero_le, Option.isSome_some, Option.isSome_none, noApp_eq, List.all_cons, List.all_nil, appOK_val, appOK_own, appOK_unset, appOK_app, Bool.and_true, Bool.true_and, reduceIte, List.mem_cons, List.not_mem_nil, or_false, false_or, or_true, true_or, itemsOf, Option.bind_some, compGo, turnD_tt, o_len, o_lens, o_sub, o_neg, o_addi, o_startswith, o_endswith, le_lim, lt_lim, List.length_cons, List.length_nil, Nat.zero_add, *]) <;> rfl))
  case a11 => clear ho hb c11; (((try simp (config := {failIfUnchanged := false}) only [ev1_eq, evT_eq, evI_eq, one_some, theItems_some, truthR_some, evq_const, evq_var, evq_op, evq_nil, evq_cons, evq_star, evq_and, evq_or, evq_not, evq_ite, evq_call, evq_tup, evq_list, evq_comp, evq_comp2, evq_comp3, evq_mapF, evq_seqI, evq_rangeI, evq_enumI, evq_setI, fzAll, ownAt, Mine.R.ds, Mine.R.fz, Mine.D.truth, List.map_cons, List.map_nil, List.getElem?_cons_zero, List.getElem?_cons_succ, List.getElem?_nil, Option.map_some, Option.map_none, List.set_cons_zero, List.set_cons_succ, List.getElem?_set, List.length_set, Nat.reduceLT, eq_str, ne_str, notin_str, in_str1, replace1, List.cons.injEq, and_true, and_false, true_and, false_and, Nat.reduceEqDiff, decide_true, decide_false, reduceCtorEq, Bool.not_true, Bool.not_false, Nat.reduceAdd, List.isEmpty_cons, List.isEmpty_nil, Nat.reduceLeDiff, Nat.zero_le, Option.isSome_some, Option.isSome_none, noApp_eq, List.all_cons, List.all_nil, appOK_val, appOK_own, appOK_unset, appOK_app, Bool.and_true, Bool.true_and, reduceIte, List.mem_cons, List.not_mem_nil, or_false, false_or, or_true, true_or, itemsOf, Option.bind_some, compGo, turnD_tt, o_len, o_lens, o_sub, o_neg, o_addi, o_startswith, o_endswith, le_lim, lt_lim, List.length_cons, List.length_nil, Nat.zero_add, *]) <;> rfl))
end
end Mine
end P07hx
section P07ix
open PySem PySem.StrLaws PySem.Builtin PySem.Builtin.Str
namespace Mine
noncomputable def l7iB : S := (.seq (.assignO 12 (.op .listOf (.cons (.op .index (.cons (.op .index (.cons (.var 2) (.cons (.var 11) .nil))) (.cons (.const (.int 1)) .nil))) .nil))) (.seq (.ite (.op .eq (.cons (.op .mod (.cons (.op .add (.cons (.var 11) (.cons (.var 3) .nil))) (.cons (.const (.int 2)) .nil))) (.cons (.const (.int 1)) .nil))) (.seq (.setItem 12 (.const (.int 3)) (.op .index (.cons (.const (.str [45, 43, 95, 61])) (.cons (.op .mod (.cons (.op .add (.cons (.op .strIndex (.cons (.const (.str [45, 43, 95, 61])) (.cons (.op .index (.cons (.var 12) (.cons (.const (.int 3)) .nil))) .nil))) (.cons (.const (.int 1)) .nil))) (.cons (.const (.int 4)) .nil))) .nil)))) .skip) .skip) (.seq (.seq (.fz 12) (.assign 13 (.call 1 (.cons (.call 32 (.cons (.var 12) (.cons (.op .mul (.cons (.list (.cons (.const (.str [42])) .nil)) (.cons (.const (.int 3)) .nil))) .nil))) (.cons (.var 1) (.cons (.const (.str [46])) .nil)))))) (.seq (.assign 14 (.call 31 (.cons (.var 13) (.cons (.var 1) (.cons (.call 8 (.cons (.var 10) .nil)) .nil))))) (.seq (.ite (.op .ne (.cons (.op .isnot (.cons (.var 14) (.cons (.const .none) .nil))) (.cons (.op .eq (.cons (.var 12) (.cons (.var 7) .nil))) .nil))) (.seq (.ret (.const (.bool false))) .skip) .skip) (.seq (.ite (.op .is_ (.cons (.var 14) (.cons (.const .none) .nil))) (.seq .cont .skip) .skip) (.seq (.ite (.op .ne (.cons (.var 14) (.cons (.var 8) .nil))) (.seq (.ret (.const (.bool false))) .skip) .skip) (.seq (.assign 15 (.comp 23 (.rangeI (.cons (.const (.int 4)) .nil)) (.const (.bool true)) (.op .index (.cons (.const (.str [45, 43, 95, 61])) (.cons (.op .mod (.cons (.op .fdiv (.cons (.var 9) (.cons (.op .pow (.cons (.const (.int 4)) (.cons (.op .add (.cons (.var 23) (.cons (.var 11) .nil))) .nil))) .nil))) (.cons (.const (.int 4)) .nil))) .nil))))) (.seq (.assign 16 (.op .add (.cons (.const (.str [47])) (.cons (.op .join (.cons (.const (.str [47])) (.cons (.comp 24 (.rangeI (.cons (.op .mod (.cons (.var 11) (.cons (.const (.int 3)) .nil))) .nil)) (.const (.bool true)) (.op .index (.cons (.const (.str [97, 98])) (.cons (.op .mod (.cons (.op .fdiv (.cons (.var 9) (.cons (.op .pow (.cons (.const (.int 2)) (.cons (.var 24) .nil))) .nil))) (.cons (.const (.int 2)) .nil))) .nil)))) .nil))) .nil)))) (.seq (.assign 17 (.call 4 (.cons (.var 16) (.cons (.call 32 (.cons (.var 15) (.cons (.op .slice3 (.cons (.var 14) (.cons (.const .none) (.cons (.const .none) (.cons (.op .neg (.cons (.const (.int 1)) .nil)) .nil))))) .nil))) .nil)))) (.seq (.assign 18 (.call 31 (.cons (.call 1 (.cons (.call 32 (.cons (.var 15) (.cons (.op .mul (.cons (.list (.cons (.const (.str [42])) .nil)) (.cons (.const (.int 3)) .nil))) .nil))) (.cons (.var 1) (.cons (.const (.str [46])) .nil)))) (.cons (.var 1) (.cons (.call 8 (.cons (.var 17) .nil)) .nil))))) (.seq (.ite (.op .ne (.cons (.var 18) (.cons (.op .slice3 (.cons (.var 8) (.cons (.const .none) (.cons (.const .none) (.cons (.op .neg (.cons (.const (.int 1)) .nil)) .nil))))) .nil))) (.seq (.ret (.const (.bool false))) .skip) .skip) (.seq (.ite (.and (.op .ne (.cons (.var 15) (.cons (.var 7) .nil))) (.op .isnot (.cons (.call 31 (.cons (.var 13) (.cons (.var 1) (.cons (.call 8 (.cons (.var 17) .nil)) .nil)))) (.cons (.const .none) .nil)))) (.seq (.ret (.const (.bool false))) .skip) .skip) (.seq (.assign 19 (.call 4 (.cons (.call 6 (.cons (.var 17) .nil)) (.cons (.call 11 (.cons (.var 6) (.cons (.call 6 (.cons (.var 17) .nil)) .nil))) .nil)))) (.seq (.seq (.fz 12) (.ite (.or (.op .ne (.cons (.call 9 (.cons (.var 19) .nil)) (.cons (.var 6) .nil))) (.op .ne (.cons (.call 4 (.cons (.call 9 (.cons (.var 19) .nil)) (.cons (.call 32 (.cons (.var 12) (.cons (.op .slice3 (.cons (.var 18) (.cons (.const .none) (.cons (.const .none) (.cons (.op .neg (.cons (.const (.int 1)) .nil)) .nil))))) .nil))) .nil))) (.cons (.var 10) .nil)))) (.seq (.ret (.const (.bool false))) .skip) .skip)) .skip)))))))))))))))
noncomputable def l7oB : S := (.seq (.assign3 6 7 8 (.op .index (.cons (.var 2) (.cons (.var 3) .nil)))) (.seq (.seq (.fz 8) (.assign 10 (.call 4 (.cons (.var 6) (.cons (.call 32 (.cons (.var 7) (.cons (.var 8) .nil))) .nil))))) (.seq (.seq (.fz 8) (.ite (.or (.op .ne (.cons (.call 6 (.cons (.var 10) .nil)) (.cons (.var 6) .nil))) (.op .ne (.cons (.call 8 (.cons (.var 10) .nil)) (.cons (.call 32 (.cons (.var 7) (.cons (.var 8) .nil))) .nil)))) (.seq (.ret (.const (.bool false))) .skip) .skip)) (.seq (.forE 11 (.rangeI (.cons (.const (.int 5)) .nil)) (.seq (.assignO 12 (.op .listOf (.cons (.op .index (.cons (.op .index (.cons (.var 2) (.cons (.var 11) .nil))) (.cons (.const (.int 1)) .nil))) .nil))) (.seq (.ite (.op .eq (.cons (.op .mod (.cons (.op .add (.cons (.var 11) (.cons (.var 3) .nil))) (.cons (.const (.int 2)) .nil))) (.cons (.const (.int 1)) .nil))) (.seq (.setItem 12 (.const (.int 3)) (.op .index (.cons (.const (.str [45, 43, 95, 61])) (.cons (.op .mod (.cons (.op .add (.cons (.op .strIndex (.cons (.const (.str [45, 43, 95, 61])) (.cons (.op .index (.cons (.var 12) (.cons (.const (.int 3)) .nil))) .nil))) (.cons (.const (.int 1)) .nil))) (.cons (.const (.int 4)) .nil))) .nil)))) .skip) .skip) (.seq (.seq (.fz 12) (.assign 13 (.call 1 (.cons (.call 32 (.cons (.var 12) (.cons (.op .mul (.cons (.list (.cons (.const (.str [42])) .nil)) (.cons (.const (.int 3)) .nil))) .nil))) (.cons (.var 1) (.cons (.const (.str [46])) .nil)))))) (.seq (.assign 14 (.call 31 (.cons (.var 13) (.cons (.var 1) (.cons (.call 8 (.cons (.var 10) .nil)) .nil))))) (.seq (.ite (.op .ne (.cons (.op .isnot (.cons (.var 14) (.cons (.const .none) .nil))) (.cons (.op .eq (.cons (.var 12) (.cons (.var 7) .nil))) .nil))) (.seq (.ret (.const (.bool false))) .skip) .skip) (.seq (.ite (.op .is_ (.cons (.var 14) (.cons (.const .none) .nil))) (.seq .cont .skip) .skip) (.seq (.ite (.op .ne (.cons (.var 14) (.cons (.var 8) .nil))) (.seq (.ret (.const (.bool false))) .skip) .skip) (.seq (.assign 15 (.comp 23 (.rangeI (.cons (.const (.int 4)) .nil)) (.const (.bool true)) (.op .index (.cons (.const (.str [45, 43, 95, 61])) (.cons (.op .mod (.cons (.op .fdiv (.cons (.var 9) (.cons (.op .pow (.cons (.const (.int 4)) (.cons (.op .add (.cons (.var 23) (.cons (.var 11) .nil))) .nil))) .nil))) (.cons (.const (.int 4)) .nil))) .nil))))) (.seq (.assign 16 (.op .add (.cons (.const (.str [47])) (.cons (.op .join (.cons (.const (.str [47])) (.cons (.comp 24 (.rangeI (.cons (.op .mod (.cons (.var 11) (.cons (.const (.int 3)) .nil))) .nil)) (.const (.bool true)) (.op .index (.cons (.const (.str [97, 98])) (.cons (.op .mod (.cons (.op .fdiv (.cons (.var 9) (.cons (.op .pow (.cons (.const (.int 2)) (.cons (.var 24) .nil))) .nil))) (.cons (.const (.int 2)) .nil))) .nil)))) .nil))) .nil)))) (.seq (.assign 17 (.call 4 (.cons (.var 16) (.cons (.call 32 (.cons (.var 15) (.cons (.op .slice3 (.cons (.var 14) (.cons (.const .none) (.cons (.const .none) (.cons (.op .neg (.cons (.const (.int 1)) .nil)) .nil))))) .nil))) .nil)))) (.seq (.assign 18 (.call 31 (.cons (.call 1 (.cons (.call 32 (.cons (.var 15) (.cons (.op .mul (.cons (.list (.cons (.const (.str [42])) .nil)) (.cons (.const (.int 3)) .nil))) .nil))) (.cons (.var 1) (.cons (.const (.str [46])) .nil)))) (.cons (.var 1) (.cons (.call 8 (.cons (.var 17) .nil)) .nil))))) (.seq (.ite (.op .ne (.cons (.var 18) (.cons (.op .slice3 (.cons (.var 8) (.cons (.const .none) (.cons (.const .none) (.cons (.op .neg (.cons (.const (.int 1)) .nil)) .nil))))) .nil))) (.seq (.ret (.const (.bool false))) .skip) .skip) (.seq (.ite (.and (.op .ne (.cons (.var 15) (.cons (.var 7) .nil))) (.op .isnot (.cons (.call 31 (.cons (.var 13) (.cons (.var 1) (.cons (.call 8 (.cons (.var 17) .nil)) .nil)))) (.cons (.const .none) .nil)))) (.seq (.ret (.const (.bool false))) .skip) .skip) (.seq (.assign 19 (.call 4 (.cons (.call 6 (.cons (.var 17) .nil)) (.cons (.call 11 (.cons (.var 6) (.cons (.call 6 (.cons (.var 17) .nil)) .nil))) .nil)))) (.seq (.seq (.fz 12) (.ite (.or (.op .ne (.cons (.call 9 (.cons (.var 19) .nil)) (.cons (.var 6) .nil))) (.op .ne (.cons (.call 4 (.cons (.call 9 (.cons (.var 19) .nil)) (.cons (.call 32 (.cons (.var 12) (.cons (.op .slice3 (.cons (.var 18) (.cons (.const .none) (.cons (.const .none) (.cons (.op .neg (.cons (.const (.int 1)) .nil)) .nil))))) .nil))) .nil))) (.cons (.var 10) .nil)))) (.seq (.ret (.const (.bool false))) .skip) .skip)) .skip)))))))))))))))) .skip))))
noncomputable def Fil.nm (f : Fil) : List Nat := nm7 f.a f.b f.c f.d f.r0 f.r1 f.r2
theorem FilOK.mks {f : Fil} (h : FilOK f) : MkOK f.a f.b f.c f.d := ⟨h.m⟩
noncomputable def oks (l : List Slot) : Prop := ∀ j, l.all (appOK j) = true
theorem o_ne_nD {a b : List (List Nat)} : opF .ne [nD a, nD b] = some (.val (.bool (!decide (a = b)))) := by
  have e : eqD (nD a) (nD b) = some (decide (a = b)) := by
    show (if ((nD a).ok 9 && (nD b).ok 9) = true then some (PyData.eqv (nD a).toPy (nD b).toPy) else none) = _
    rw [ok_nD, ok_nD, eqv_nD]; rfl
  show ((eqD (nD a) (nD b)).map (!·)).map (fun x => R.val (.bool x)) = _
  rw [e]; rfl
theorem rev3 {a b c : D} : opF .slice3 [.list [a, b, c], .none, .none, .int (-1)] = some (.own [c, b, a]) := by kernel_rfl
section
variable {tl : List Slot} {x0 x4 x5 x12 x13 x14 x15 x16 x17 x18 x19 : Slot}
theorem inner_turn {FS : List D} {k n l : Nat} {f g : Fil} (hf : FilOK f) (hg : FilOK g) (hn : n ≤ 5) (hi : FS[n]? = some g.D) {x : List Nat} (hx : Fold (fo f.i) x) (ht : tl.length = 5)
    (ha : ∀ j, [x0, x4, x5, x12, x13, x14, x15, x16, x17, x18, x19].all (appOK j) = true) (hta : ∀ j, tl.all (appOK j) = true) :
    ∃ o y12 y13 y14 y15 y16 y17 y18 y19, (o = .next ∨ o = .cont) ∧ (∀ j, [y12, y13, y14, y15, y16, y17, y18, y19].all (appOK j) = true) ∧
      ex (callF fns07 40) l7iB (x0 :: .val (.tok 0) :: .own FS :: .val (.int (k : Int)) :: x4 :: x5 :: .val (.str (fo f.i)) :: .val f.marks :: .val f.runs :: .val (.int (l : Int)) :: .val (.str (x ++ 47 :: f.nm)) :: .val (.int (n : Int)) :: x12 :: x13 :: x14 :: x15 :: x16 :: x17 :: x18 :: x19 :: tl) =
        some (x0 :: .val (.tok 0) :: .own FS :: .val (.int (k : Int)) :: x4 :: x5 :: .val (.str (fo f.i)) :: .val f.marks :: .val f.runs :: .val (.int (l : Int)) :: .val (.str (x ++ 47 :: f.nm)) :: .val (.int (n : Int)) :: y12 :: y13 :: y14 :: y15 :: y16 :: y17 :: y18 :: y19 :: tl, o) := by
  have hno : noApp 12 (x0 :: .val (.tok 0) :: .own FS :: .val (.int (k : Int)) :: x4 :: x5 :: .val (.str (fo f.i)) :: .val f.marks :: .val f.runs :: .val (.int (l : Int)) :: .val (.str (x ++ 47 :: f.nm)) :: .val (.int (n : Int)) :: x12 :: x13 :: x14 :: x15 :: x16 :: x17 :: x18 :: x19 :: tl) = true := by
    have h := ha 12
    simp only [List.all_cons, List.all_nil, Bool.and_true, Bool.and_eq_true] at h
    simp only [noApp_eq, List.all_cons, appOK_val, appOK_own, hta, h, Bool.and_true, Bool.true_and]
  obtain ⟨s, hs, S, e1, e2⟩ := sought_run (cf := callF fns07 40) hg (by omega) hi hno
  have hS : MkOK g.a g.b g.c s := ⟨by
    intro y hy
    simp only [List.mem_cons, List.not_mem_nil, or_false] at hy
    rcases hy with rfl | rfl | rfl | rfl
    · exact hg.m _ (by simp)
    · exact hg.m _ (by simp)
    · exact hg.m _ (by simp)
    · exact hs⟩
  have hsl := nm_slash hf.mks hf.r0 hf.r1 hf.r2
  have hnl := nm_len (a := f.a) (b := f.b) (c := f.c) (d := f.d) hf.r0 hf.r1 hf.r2
  have c1 : callF fns07 40 32 [.list [.str [g.a], .str [g.b], .str [g.c], .str [s]], .list STl] = _ := stars_laid 39
  have c2 := tr_ok' 38 hS
  have c3 : callF fns07 40 8 [.str (x ++ 47 :: f.nm)] = some (.str f.nm) := hx.base hsl 38
  have c4 := told_ok 39 (a' := f.a) (b' := f.b) (c' := f.c) (d' := f.d) hS hf.r0 hf.r1 hf.r2
  have e5 : opF .eq [.list [.str [g.a], .str [g.b], .str [g.c], .str [s]], f.marks] = some (.val (.bool (decide ([[g.a], [g.b], [g.c], [s]] = [[f.a], [f.b], [f.c], [f.d]])))) := o_eq_nD (a := [[g.a], [g.b], [g.c], [s]]) (b := [[f.a], [f.b], [f.c], [f.d]])
  by_cases hE : [[g.a], [g.b], [g.c], [s]] = [[f.a], [f.b], [f.c], [f.d]]
  · -- the same marks
    obtain ⟨ea, eb, ec, ed⟩ : g.a = f.a ∧ g.b = f.b ∧ g.c = f.c ∧ s = f.d := by simpa using hE
    rw [ea, eb, ec, ed] at e2
    clear ea eb ec ed hE c1 c2 c4 e5 hS
    have c1 : callF fns07 40 32 [.list [.str [f.a], .str [f.b], .str [f.c], .str [f.d]], .list STl] = _ := stars_laid 39
    have c2 := tr_ok' 38 hf.mks
    have c4 := told_ok 39 (a' := f.a) (b' := f.b) (c' := f.c) (d' := f.d) hf.mks hf.r0 hf.r1 hf.r2
    rw [if_pos rfl] at c4
    have e5 : opF .eq [.list [.str [f.a], .str [f.b], .str [f.c], .str [f.d]], f.marks] = some (.val (.bool true)) := by
      have := o_eq_nD (a := [[f.a], [f.b], [f.c], [f.d]]) (b := [[f.a], [f.b], [f.c], [f.d]])
      rwa [decide_eq_true rfl] at this
    obtain ⟨a', b', c', d', hm', ho⟩ := others_ev (cf := callF fns07 40) (ρ := x0 :: .val (.tok 0) :: .own FS :: .val (.int (k : Int)) :: x4 :: x5 :: .val (.str (fo f.i)) :: .val f.marks :: .val f.runs :: .val (.int (l : Int)) :: .val (.str (x ++ 47 :: f.nm)) :: .val (.int (n : Int)) :: .val (.list [.str [f.a], .str [f.b], .str [f.c], .str [f.d]]) :: .val (parts7 f.a f.b f.c f.d) :: .val f.runs :: x15 :: x16 :: x17 :: x18 :: x19 :: tl) hn (by simp; omega) rfl rfl
    have hO : MkOK a' b' c' d' := ⟨hm'⟩
    obtain ⟨j, hj, hb⟩ := below_ev (cf := callF fns07 40) (ρ := x0 :: .val (.tok 0) :: .own FS :: .val (.int (k : Int)) :: x4 :: x5 :: .val (.str (fo f.i)) :: .val f.marks :: .val f.runs :: .val (.int (l : Int)) :: .val (.str (x ++ 47 :: f.nm)) :: .val (.int (n : Int)) :: .val (.list [.str [f.a], .str [f.b], .str [f.c], .str [f.d]]) :: .val (parts7 f.a f.b f.c f.d) :: .val f.runs :: .val (.list [.str [a'], .str [b'], .str [c'], .str [d']]) :: x16 :: x17 :: x18 :: x19 :: tl) (by simp; omega) rfl rfl
    obtain ⟨y, hy⟩ := be_fold hj
    have hsl2 := nm_slash hO hf.r2 hf.r1 hf.r0
    have hnl2 := nm_len (a := a') (b := b') (c := c') (d := d') hf.r2 hf.r1 hf.r0
    have c5 := name_laid 39 (a := a') (b := b') (c := c') (d := d') hf.r2 hf.r1 hf.r0
    have c6 := hy.join hsl2 (by omega) 38
    have c7 : callF fns07 40 32 [.list [.str [a'], .str [b'], .str [c'], .str [d']], .list STl] = _ := stars_laid 39
    have c8 := tr_ok' 38 hO
    have c9 := hy.base hsl2 38
    have c10 := told_ok 39 (a' := a') (b' := b') (c' := c') (d' := d') hO hf.r2 hf.r1 hf.r0
    rw [if_pos rfl] at c10
    have d1 : opF .ne [.list [.str [a'], .str [b'], .str [c'], .str [d']], f.marks] = some (.val (.bool (!decide ([[a'], [b'], [c'], [d']] = [[f.a], [f.b], [f.c], [f.d]])))) := o_ne_nD (a := [[a'], [b'], [c'], [d']]) (b := [[f.a], [f.b], [f.c], [f.d]])
    have c11 : (!decide ([[a'], [b'], [c'], [d']] = [[f.a], [f.b], [f.c], [f.d]])) = true → callF fns07 40 31 [parts7 f.a f.b f.c f.d, .tok 0, .str (nm7 a' b' c' d' f.r2 f.r1 f.r0)] = some .none := by
      intro hh
      have := told_ok 39 (a' := a') (b' := b') (c' := c') (d' := d') hf.mks hf.r2 hf.r1 hf.r0
      rwa [if_neg] at this
      intro q
      rw [decide_eq_true q.symm] at hh
      cases hh
    have c12 := hy.dir hsl2 38
    have c13 := rel_ok 34 hf.i hj
    have c14 := way_ok 38 hf.i hj
    have c15 := nrm_ok 36 hf.i hj
    have c16 := name_laid 39 (a := f.a) (b := f.b) (c := f.c) (d := f.d) hf.r0 hf.r1 hf.r2
    have c17 := hx.join hsl (by omega) 38
    have n1 : opF .ne [.list [.str f.r0, .str f.r1, .str f.r2], .list [.str f.r0, .str f.r1, .str f.r2]] = some (.val (.bool false)) := by
      have := o_ne_nD (a := [f.r0, f.r1, f.r2]) (b := [f.r0, f.r1, f.r2])
      rwa [decide_eq_true rfl] at this
    have n2 : opF .ne [.list [.str f.r2, .str f.r1, .str f.r0], .list [.str f.r2, .str f.r1, .str f.r0]] = some (.val (.bool false)) := by
      have := o_ne_nD (a := [f.r2, f.r1, f.r0]) (b := [f.r2, f.r1, f.r0])
      rwa [decide_eq_true rfl] at this
    have h3 := inner_yes (cf := callF fns07 40) (tl := tl) (x0 := x0) (x3 := .val (.int (k : Int))) (x4 := x4) (x5 := x5) (x11 := .val (.int (n : Int))) (x13 := x13) (x14 := x14) (x15 := x15) (x16 := x16) (x17 := x17) (x18 := x18) (x19 := x19) (FS := FS) (L := .int (l : Int)) (MK := f.marks)
      c1 c2 c3 c4 e5 n1 rev3 rev3 n2 (fun _ => ho) hb c5 c6 c7 c8 c9 c10 d1 c11 c12 c13 c14 c15 c16 c17
    refine ⟨.next, .val (.list [.str [f.a], .str [f.b], .str [f.c], .str [f.d]]), .val (parts7 f.a f.b f.c f.d), .val (.list [.str f.r0, .str f.r1, .str f.r2]), .val (.list [.str [a'], .str [b'], .str [c'], .str [d']]), .val (.str (be j)), .val (.str (y ++ 47 :: nm7 a' b' c' d' f.r2 f.r1 f.r0)), .val (.list [.str f.r2, .str f.r1, .str f.r0]), .val (.str (wy f.i j)), .inl rfl, fun _ => rfl, ?_⟩
    unfold l7i1 at e1
    unfold l7i2 at e2
    unfold l7i3 at h3
    unfold l7iB
    exact R_seq e1 (R_next (R_seq e2 (R_next h3)))
  · rw [if_neg hE] at c4
    rw [decide_eq_false hE] at e5
    have h3 := inner_no (cf := callF fns07 40) (tl := tl) (x0 := x0) (x3 := .val (.int (k : Int))) (x4 := x4) (x5 := x5) (x11 := .val (.int (n : Int))) (x13 := x13) (x14 := x14) (x15 := x15) (x16 := x16) (x17 := x17) (x18 := x18) (x19 := x19) (FS := FS) (L := .int (l : Int)) (RU := f.runs) (fo := fo f.i) c1 c2 c3 c4 e5
    refine ⟨.cont, .val (.list [.str [g.a], .str [g.b], .str [g.c], .str [s]]), .val (parts7 g.a g.b g.c s), .val .none, x15, x16, x17, x18, x19, .inr rfl, ?_, ?_⟩
    rotate_left
    · unfold l7i1 at e1
      unfold l7i2 at e2
      unfold l7i3 at h3
      unfold l7iB
      exact R_seq e1 (R_next (R_seq e2 (R_next h3)))
    · intro j
      have h := ha j
      simp only [List.all_cons, List.all_nil, Bool.and_true, Bool.and_eq_true] at h
      simp only [List.all_cons, List.all_nil, appOK_val, h, Bool.and_true, Bool.true_and]
end
end Mine
end P07ix
section P07jx
open PySem PySem.StrLaws PySem.Builtin PySem.Builtin.Str
namespace Mine
section
variable {tl : List Slot} {x0 x4 x5 x6 x7 x8 x10 x11 x12 x13 x14 x15 x16 x17 x18 x19 : Slot}
theorem range5_ev {cf : Nat → List D → Option D} {ρ : List Slot} : evI cf (.rangeI (.cons (.const (.int 5)) .nil)) ρ = some ((List.range' 0 5).map fun (k : Nat) => .int (k : Int)) := by
  have h := range1_eq (n := 5) (by decide)
  rw [evI_eq]
  simp only [evq_rangeI, evq_cons, evq_nil, evq_const, Option.map_some, List.map_cons, List.map_nil, R.ds]
  show theItems (Option.map _ (opRange [.int ((5 : Nat) : Int)])) = _
  rw [h]; rfl
theorem outer_turn {fs : List Fil} (hfs : ∀ f ∈ fs, FilOK f) (hl : fs.length = 5) {k l : Nat} (hk : k < 5) (ht : tl.length = 5) (hta : ∀ j, tl.all (appOK j) = true)
    (ha : ∀ j, [x0, x4, x5, x12, x13, x14, x15, x16, x17, x18, x19].all (appOK j) = true) :
    ∃ y6 y7 y8 y10 y11 y12 y13 y14 y15 y16 y17 y18 y19, (∀ j, [y12, y13, y14, y15, y16, y17, y18, y19].all (appOK j) = true) ∧
      ex (callF fns07 40) l7oB (x0 :: .val (.tok 0) :: .own (fs.map Fil.D) :: .val (.int (k : Int)) :: x4 :: x5 :: x6 :: x7 :: x8 :: .val (.int (l : Int)) :: x10 :: x11 :: x12 :: x13 :: x14 :: x15 :: x16 :: x17 :: x18 :: x19 :: tl) =
        some (x0 :: .val (.tok 0) :: .own (fs.map Fil.D) :: .val (.int (k : Int)) :: x4 :: x5 :: y6 :: y7 :: y8 :: .val (.int (l : Int)) :: y10 :: y11 :: y12 :: y13 :: y14 :: y15 :: y16 :: y17 :: y18 :: y19 :: tl, .next) := by
  have hk' : k < fs.length := by omega
  have hf : FilOK fs[k] := hfs _ (List.getElem_mem hk')
  have hi : ∀ {n : Nat} (hn : n < fs.length), (fs.map Fil.D)[n]? = some fs[n].D := fun hn => by rw [List.getElem?_map, List.getElem?_eq_getElem hn]; rfl
  generalize hFk : fs[k] = f at hf
  obtain ⟨x, hx⟩ := fo_fold hf.i
  have hsl := nm_slash hf.mks hf.r0 hf.r1 hf.r2
  have hnl := nm_len (a := f.a) (b := f.b) (c := f.c) (d := f.d) hf.r0 hf.r1 hf.r2
  have c16 : callF fns07 40 32 [f.marks, f.runs] = some (.str f.nm) := name_laid 39 (a := f.a) (b := f.b) (c := f.c) (d := f.d) hf.r0 hf.r1 hf.r2
  have c17 : callF fns07 40 4 [.str (fo f.i), .str f.nm] = some (.str (x ++ 47 :: f.nm)) := hx.join hsl (by omega) 38
  have c12 : callF fns07 40 6 [.str (x ++ 47 :: f.nm)] = some (.str (fo f.i)) := hx.dir hsl 38
  have c3 : callF fns07 40 8 [.str (x ++ 47 :: f.nm)] = some (.str f.nm) := hx.base hsl 38
  have h1 : opF .index [.list (fs.map Fil.D), .int (k : Int)] = some (.val f.D) := by rw [← hFk]; exact o_listidx (hi hk') (by omega)
  have lp := for_range (cf := callF fns07 40) (i := 11) (b := l7iB) (a := 0) (m := 5) (ρ := x0 :: .val (.tok 0) :: .own (fs.map Fil.D) :: .val (.int (k : Int)) :: x4 :: x5 :: .val (.str (fo f.i)) :: .val f.marks :: .val f.runs :: .val (.int (l : Int)) :: .val (.str (x ++ 47 :: f.nm)) :: x11 :: x12 :: x13 :: x14 :: x15 :: x16 :: x17 :: x18 :: x19 :: tl)
    (I := fun _ ρ => ∃ y11 y12 y13 y14 y15 y16 y17 y18 y19, (∀ j, [y12, y13, y14, y15, y16, y17, y18, y19].all (appOK j) = true) ∧ ρ = x0 :: .val (.tok 0) :: .own (fs.map Fil.D) :: .val (.int (k : Int)) :: x4 :: x5 :: .val (.str (fo f.i)) :: .val f.marks :: .val f.runs :: .val (.int (l : Int)) :: .val (.str (x ++ 47 :: f.nm)) :: y11 :: y12 :: y13 :: y14 :: y15 :: y16 :: y17 :: y18 :: y19 :: tl)
    ⟨x11, x12, x13, x14, x15, x16, x17, x18, x19, fun j => by
      have h := ha j
      simp only [List.all_cons, List.all_nil, Bool.and_true, Bool.and_eq_true] at h
      simp only [List.all_cons, List.all_nil, h, Bool.and_true], rfl⟩
    (by
      rintro n ρ _ hn ⟨y11, y12, y13, y14, y15, y16, y17, y18, y19, hy, rfl⟩
      have hn' : n < fs.length := by omega
      obtain ⟨o, z12, z13, z14, z15, z16, z17, z18, z19, ho, hz, e⟩ := inner_turn (tl := tl) (x0 := x0) (x4 := x4) (x5 := x5) (x12 := y12) (x13 := y13) (x14 := y14) (x15 := y15) (x16 := y16) (x17 := y17) (x18 := y18) (x19 := y19) (k := k) (l := l) (FS := fs.map Fil.D) hf (hfs _ (List.getElem_mem hn')) (by omega) (hi hn') hx ht (fun j => by
        have h := ha j
        have h' := hy j
        simp only [List.all_cons, List.all_nil, Bool.and_true, Bool.and_eq_true] at h h'
        simp only [List.all_cons, List.all_nil, h, h', Bool.and_true]) hta
      exact ⟨_, o, e, ho, _, z12, z13, z14, z15, z16, z17, z18, z19, hz, rfl⟩)
  obtain ⟨ρ1, e1, y11, y12, y13, y14, y15, y16, y17, y18, y19, hy, rfl⟩ := lp
  refine ⟨.val (.str (fo f.i)), .val f.marks, .val f.runs, .val (.str (x ++ 47 :: f.nm)), y11, y12, y13, y14, y15, y16, y17, y18, y19, hy, ?_⟩
  have k1 : opF .ne [.str (fo f.i), .str (fo f.i)] = some (.val (.bool false)) := by rw [ne_str, decide_eq_true rfl]; rfl
  have k2 : opF .ne [.str f.nm, .str f.nm] = some (.val (.bool false)) := by rw [ne_str, decide_eq_true rfl]; rfl
  have hD : f.D = .tup [.str (fo f.i), f.marks, f.runs] := rfl
  rw [hD] at h1
  unfold l7iB at e1
  unfold l7oB
  refine R_seq (R_assign3 (d1 := .str (fo f.i)) (d2 := f.marks) (d3 := f.runs) ?a1 rfl) (R_next (R_seq (R_seq (R_fz_no rfl) (R_next (R_assign (d := .str (x ++ 47 :: f.nm)) ?a2 rfl))) (R_next (R_seq (R_seq (R_fz_no rfl) (R_next (R_ite (t := false) ?a3 (R_ff R_skip)))) (R_next (R_seq (R_for range5_ev e1) (R_next R_skip)))))))
  case a1 =>
    clear e1 c16 c17 c12 c3 k1 k2 ha
    generalize (.int (k : Int) : D) = K at *
    generalize fs.map Fil.D = FS at *
    generalize f.marks = M at *
    generalize f.runs = RU at *
    generalize fo f.i = FO at *
    (((try simp (config := {failIfUnchanged := false}) only [ev1_eq, evT_eq, evI_eq, one_some, theItems_some, truthR_some, evq_const, evq_var, evq_op, evq_nil, evq_cons, evq_star, evq_and, evq_or, evq_not, evq_ite, evq_call, evq_tup, evq_list, evq_comp, evq_comp2, evq_comp3, evq_mapF, evq_seqI, evq_rangeI, evq_enumI, evq_setI, fzAll, ownAt, Mine.R.ds, Mine.R.fz, Mine.D.truth, List.map_cons, List.map_nil, List.getElem?_cons_zero, List.getElem?_cons_succ, List.getElem?_nil, Option.map_some, Option.map_none, List.set_cons_zero, List.set_cons_succ, List.getElem?_set, List.length_set, Nat.reduceLT, eq_str, ne_str, notin_str, in_str1, replace1, List.cons.injEq, and_true, and_false, true_and, false_and, Nat.reduceEqDiff, decide_true, decide_false, reduceCtorEq, Bool.not_true, Bool.not_false, Nat.reduceAdd, List.isEmpty_cons, List.isEmpty_nil, Nat.reduceLeDiff, Nat.zero_le, Option.isSome_some, Option.isSome_none, noApp_eq, List.all_cons, List.all_nil, appOK_val, appOK_own, appOK_unset, appOK_app, Bool.and_true, Bool.true_and, reduceIte, List.mem_cons, List.not_mem_nil, or_false, false_or, or_true, true_or, itemsOf, Option.bind_some, compGo, turnD_tt, o_len, o_lens, o_sub, o_neg, o_addi, o_startswith, o_endswith, le_lim, lt_lim, List.length_cons, List.length_nil, Nat.zero_add, *]) <;> rfl))
  case a2 =>
    clear e1 c12 c3 k1 k2 ha h1
    generalize x ++ 47 :: f.nm = pa at *
    generalize f.marks = M at *
    generalize f.runs = RU at *
    generalize fo f.i = FO at *
    generalize f.nm = NM at *
    (((try simp (config := {failIfUnchanged := false}) only [ev1_eq, evT_eq, evI_eq, one_some, theItems_some, truthR_some, evq_const, evq_var, evq_op, evq_nil, evq_cons, evq_star, evq_and, evq_or, evq_not, evq_ite, evq_call, evq_tup, evq_list, evq_comp, evq_comp2, evq_comp3, evq_mapF, evq_seqI, evq_rangeI, evq_enumI, evq_setI, fzAll, ownAt, Mine.R.ds, Mine.R.fz, Mine.D.truth, List.map_cons, List.map_nil, List.getElem?_cons_zero, List.getElem?_cons_succ, List.getElem?_nil, Option.map_some, Option.map_none, List.set_cons_zero, List.set_cons_succ, List.getElem?_set, List.length_set, Nat.reduceLT, eq_str, ne_str, notin_str, in_str1, replace1, List.cons.injEq, and_true, and_false, true_and, false_and, Nat.reduceEqDiff, decide_true, decide_false, reduceCtorEq, Bool.not_true, Bool.not_false, Nat.reduceAdd, List.isEmpty_cons, List.isEmpty_nil, Nat.reduceLeDiff, Nat.zero_le, Option.isSome_some, Option.isSome_none, noApp_eq, List.all_cons, List.all_nil, appOK_val, appOK_own, appOK_unset, appOK_app, Bool.and_true, Bool.true_and, reduceIte, List.mem_cons, List.not_mem_nil, or_false, false_or, or_true, true_or, itemsOf, Option.bind_some, compGo, turnD_tt, o_len, o_lens, o_sub, o_neg, o_addi, o_startswith, o_endswith, le_lim, lt_lim, List.length_cons, List.length_nil, Nat.zero_add, *]) <;> rfl))
  case a3 =>
    clear e1 ha h1
    generalize x ++ 47 :: f.nm = pa at *
    generalize f.marks = M at *
    generalize f.runs = RU at *
    generalize fo f.i = FO at *
    generalize f.nm = NM at *
    (((try simp (config := {failIfUnchanged := false}) only [ev1_eq, evT_eq, evI_eq, one_some, theItems_some, truthR_some, evq_const, evq_var, evq_op, evq_nil, evq_cons, evq_star, evq_and, evq_or, evq_not, evq_ite, evq_call, evq_tup, evq_list, evq_comp, evq_comp2, evq_comp3, evq_mapF, evq_seqI, evq_rangeI, evq_enumI, evq_setI, fzAll, ownAt, Mine.R.ds, Mine.R.fz, Mine.D.truth, List.map_cons, List.map_nil, List.getElem?_cons_zero, List.getElem?_cons_succ, List.getElem?_nil, Option.map_some, Option.map_none, List.set_cons_zero, List.set_cons_succ, List.getElem?_set, List.length_set, Nat.reduceLT, eq_str, ne_str, notin_str, in_str1, replace1, List.cons.injEq, and_true, and_false, true_and, false_and, Nat.reduceEqDiff, decide_true, decide_false, reduceCtorEq, Bool.not_true, Bool.not_false, Nat.reduceAdd, List.isEmpty_cons, List.isEmpty_nil, Nat.reduceLeDiff, Nat.zero_le, Option.isSome_some, Option.isSome_none, noApp_eq, List.all_cons, List.all_nil, appOK_val, appOK_own, appOK_unset, appOK_app, Bool.and_true, Bool.true_and, reduceIte, List.mem_cons, List.not_mem_nil, or_false, false_or, or_true, true_or, itemsOf, Option.bind_some, compGo, turnD_tt, o_len, o_lens, o_sub, o_neg, o_addi, o_startswith, o_endswith, le_lim, lt_lim, List.length_cons, List.length_nil, Nat.zero_add, *]) <;> rfl))
end
theorem law07_main (ns : List Int) : ∃ ρ', ex (callF fns07 40) s_law [.val (.list (ns.map .int)), .val (.tok 0), .unset, .unset, .unset, .unset, .unset, .unset, .unset, .unset, .unset, .unset, .unset, .unset, .unset, .unset, .unset, .unset, .unset, .unset, .unset, .unset, .unset, .unset, .unset] = some (ρ', .ret (.bool true)) := by
  have l1 := for_range (cf := callF fns07 40) (i := 3) (b := l7fB) (a := 0) (m := 5) (ρ := [.val (.list (ns.map .int)), .val (.tok 0), .own (([] : List Fil).map Fil.D), .unset, .unset, .unset, .unset, .unset, .unset, .unset, .unset, .unset, .unset, .unset, .unset, .unset, .unset, .unset, .unset, .unset, .unset, .unset, .unset, .unset, .unset])
    (I := fun k ρ => ∃ (fs : List Fil) (y3 y4 y5 y6 y7 y8 : Slot), (∀ f ∈ fs, FilOK f) ∧ fs.length = k ∧ (∀ j, [y4, y5, y6, y7, y8].all (appOK j) = true) ∧ ρ = .val (.list (ns.map .int)) :: .val (.tok 0) :: .own (fs.map Fil.D) :: y3 :: y4 :: y5 :: y6 :: y7 :: y8 :: List.replicate 16 .unset)
    ⟨[], .unset, .unset, .unset, .unset, .unset, .unset, fun _ h => (nomatch h), rfl, fun _ => rfl, rfl⟩
    (by
      rintro k ρ _ hk ⟨fs, y3, y4, y5, y6, y7, y8, h1, h2, h3, rfl⟩
      have g : ∀ j, appOK j y4 = true ∧ appOK j y5 = true ∧ appOK j y6 = true ∧ appOK j y7 = true ∧ appOK j y8 = true := fun j => by
        have h := h3 j
        simp only [List.all_cons, List.all_nil, Bool.and_true, Bool.and_eq_true] at h
        exact h
      obtain ⟨f, z4, z5, z6, z7, z8, hf, e⟩ := file_turn (cf := callF fns07 40) (tl := List.replicate 16 .unset) (by simp) (fun _ => rfl) (fun j => (g j).1) (fun j => (g j).2.1) (fun j => (g j).2.2.1) (fun j => (g j).2.2.2.1) (fun j => (g j).2.2.2.2) (ns := ns) (k := k) (by omega) (fs := fs.map Fil.D) (by unfold lim; simp; omega)
      refine ⟨_, .next, e, .inl rfl, fs ++ [f], _, .val z4, .val z5, .val z6, .val z7, .val z8, ?_, by simp [h2], fun _ => rfl, by rw [List.map_append]; rfl⟩
      intro q hq
      rcases List.mem_append.mp hq with hq | hq
      · exact h1 q hq
      · rw [List.mem_singleton.mp hq]; exact hf)
  obtain ⟨ρ1, e1, fs, y3, y4, y5, y6, y7, y8, hfs, hlen, hy, rfl⟩ := l1
  obtain ⟨l, eN⟩ := fresh_ev (cf := callF fns07 40) (ns := ns) (ρ := .val (.list (ns.map .int)) :: .val (.tok 0) :: .own (fs.map Fil.D) :: y3 :: y4 :: y5 :: y6 :: y7 :: y8 :: List.replicate 16 .unset) rfl
  have l2 := for_range (cf := callF fns07 40) (i := 3) (b := l7oB) (a := 0) (m := 5) (ρ := .val (.list (ns.map .int)) :: .val (.tok 0) :: .own (fs.map Fil.D) :: y3 :: y4 :: y5 :: y6 :: y7 :: y8 :: .val (.int (l : Int)) :: List.replicate 15 .unset)
    (I := fun k ρ => ∃ (z3 z6 z7 z8 z10 z11 z12 z13 z14 z15 z16 z17 z18 z19 : Slot), (∀ j, [z12, z13, z14, z15, z16, z17, z18, z19].all (appOK j) = true) ∧ ρ = .val (.list (ns.map .int)) :: .val (.tok 0) :: .own (fs.map Fil.D) :: z3 :: y4 :: y5 :: z6 :: z7 :: z8 :: .val (.int (l : Int)) :: z10 :: z11 :: z12 :: z13 :: z14 :: z15 :: z16 :: z17 :: z18 :: z19 :: List.replicate 5 .unset)
    ⟨y3, y6, y7, y8, .unset, .unset, .unset, .unset, .unset, .unset, .unset, .unset, .unset, .unset, fun _ => rfl, rfl⟩
    (by
      rintro k ρ _ hk ⟨z3, z6, z7, z8, z10, z11, z12, z13, z14, z15, z16, z17, z18, z19, hz, rfl⟩
      obtain ⟨u6, u7, u8, u10, u11, u12, u13, u14, u15, u16, u17, u18, u19, hu, e⟩ := outer_turn (tl := List.replicate 5 .unset) (x0 := .val (.list (ns.map .int))) (x4 := y4) (x5 := y5) (x6 := z6) (x7 := z7) (x8 := z8) (x10 := z10) (x11 := z11) (x12 := z12) (x13 := z13) (x14 := z14) (x15 := z15) (x16 := z16) (x17 := z17) (x18 := z18) (x19 := z19) (k := k) (l := l) hfs (by omega) (by omega) (by simp) (fun _ => rfl) (fun j => by
        have h := hy j
        have h' := hz j
        simp only [List.all_cons, List.all_nil, Bool.and_true, Bool.and_eq_true] at h h'
        simp only [List.all_cons, List.all_nil, appOK_val, h, h', Bool.and_true])
      exact ⟨_, .next, e, .inl rfl, _, u6, u7, u8, u10, u11, u12, u13, u14, u15, u16, u17, u18, u19, hu, rfl⟩)
  obtain ⟨ρ2, e2, _⟩ := l2
  unfold l7N at eN
  unfold l7fB at e1
  unfold l7oB at e2
  unfold s_law
  exact ⟨ρ2, R_seq (R_assignO (l := []) rfl rfl rfl) (R_next (R_seq (R_for range5_ev e1) (R_next (R_seq (R_assign eN rfl) (R_next (R_seq (R_for range5_ev e2) (R_next (R_seq (R_ret rfl) R_out_ret))))))))⟩
end Mine
end P07jx
open PySem PySem.Calls PyProof.Rows PySem.Builtin.Str PySem.W PySem.W.X PySem.W.ZRun
namespace Mine
noncomputable abbrev fa07 : Nat → Addr := fun i => ([55, 62, 135, 156, 163, 0, 184, 170, 177, 191, 198, 206, 142, 0, 0, 0, 0, 0, 0, 0, 0, 0, 0, 0, 0, 0, 0, 0, 0, 0, 0, 213, 220, 0, 0, 225] : List Addr).getD i 0
theorem lookup_memN {β : Type} {x : Nat} {b : β} : ∀ {l : List (Nat × β)}, l.lookup x = some b → (x, b) ∈ l
  | [], e => by cases e
  | (y, c) :: r, e => by
    rw [List.lookup_cons] at e
    cases hx : x == y with
    | true =>
      rw [hx] at e
      cases e
      rw [beq_iff_eq.mp hx]
      exact List.mem_cons_self
    | false =>
      rw [hx] at e
      exact List.mem_cons_of_mem _ (lookup_memN e)
noncomputable def rho07 (ns : List Int) : List Slot := [.val (.list (ns.map .int))] ++ List.replicate 24 .unset
theorem rho07_plain (ns : List Int) : PlainRho (rho07 ns) := by
  intro j
  match j with
  | 0 => exact .inr ⟨ns, rfl⟩
  | j + 1 =>
    left
    unfold slotAt rho07
    rw [List.getD_eq_getElem?_getD, List.singleton_append, List.getElem?_cons_succ, List.getElem?_replicate]
    split <;> rfl
theorem law07_true (ns : List Int) : ∃ ρ', ex (callF fns07 40) s_law ((rho07 ns).set 1 (.val (.tok 0))) = some (ρ', .ret (.bool true)) :=
  law07_main ns
end Mine
set_option maxHeartbeats 0 in
theorem PySem.Challenge.cw_dn0069_07_holds : PySem.Challenge.rw_dn0069_07.Holds := by
  w_on; refine holds_law Mine.said07 fun said => ?_
  refine holds_openX (q := Mine.view07) (loose := [PySem.Str.ofString "_twin_re_1", PySem.Str.ofString "_special_chars_map", PySem.Str.ofString "relpath"]) (Xt := fun s => xlAt Mine.view07 [] s && recOk (RowW.records PySem.Challenge.rw_dn0069_07.row.toRowW) s) (XP := XL Mine.view07 []) (Yf := obsZ Mine.zas) (Ya := valZ Mine.zk 226 744) (N := 5214) ?hl (fun s e => xl_of s (Bool.and_eq_true_iff.mp e).1) XL.keeps (by rfl) (by rfl) (by rfl) (fun s e => recFacts_of (Bool.and_eq_true_iff.mp e).2) (by rfl) (by first | assumption | decide +kernel) (by decide +kernel) ⟨rfl, rfl, rfl, rfl, rfl, by decide +kernel⟩ ?hw ?hc
  case hl => exact Mine.hleft
  case hw => w_witness2
  k_fill
  intro w s₀ s₁ mg mb G y fa o pm cd doc dV kV ho hd hcd hD hmg hg args vals as hL0 hpre hlay hrd hwl hlo
  have Zf := z_facts Mine.zkeys y
  have KX := InK.keeps w s₀.heap s₁.heap Zf.2.1 hL0.keeps
  have ZN := Zf.2.2.1
  refine Ground.open G ?_
  intro T0 B D TE TW
  wrow_args hpre hlay hrd hwl hlo
  obtain ⟨hat, hsz⟩ := script_at hL0
  rw [ZN] at hat hsz
  subst hat
  have hfa := Value.ref.inj (Option.some.inj (hmg.symm.trans (mg_of (v := .ref 225) KX T0.g rfl)))
  subst hfa
  refine enter_call ?_
  have hT : TabsAt [(61, 57)] s₁.heap := List.forall_mem_cons.mpr ⟨⟨codeHd_of_K KX (by kernel_rfl), KX 57 _ rfl⟩, fun _ h => nomatch h⟩
  have X := Mine.ghost_filter (c := 61) (P := 57) KX
  rename IntsAre _ _ => hI
  rename Heap.IsList _ _ _ => hIL
  rename List Int => ns
  have hlen := hI.length
  have hobj := script_obj hL0 hIL
  have hcx : ∀ T, Mine.Inj T → Mine.CxOk (Mine.mkCx PySem.Challenge.rw_dn0069_07.row.prog w s₁.heap 61 57 Mine.qs07 mg mb Mine.fa07 T) := fun T1 h1 => Mine.cxOk_of hT X T0 (by decide +kernel) rfl (by rfl) h1
  have hN : ∀ T, Mine.GN (Mine.mkCx PySem.Challenge.rw_dn0069_07.row.prog w s₁.heap 61 57 Mine.qs07 mg mb Mine.fa07 T) Mine.fs07 Mine.bs07 := fun T => Mine.gn_of (List.forall_mem_cons.mpr ⟨mg_of KX T0.g rfl, List.forall_mem_cons.mpr ⟨mg_of KX T0.g rfl, List.forall_mem_cons.mpr ⟨mg_of KX T0.g rfl, List.forall_mem_cons.mpr ⟨mg_of KX T0.g rfl, List.forall_mem_cons.mpr ⟨mg_of KX T0.g rfl, List.forall_mem_cons.mpr ⟨mg_of KX T0.g rfl, List.forall_mem_cons.mpr ⟨mg_of KX T0.g rfl, List.forall_mem_cons.mpr ⟨mg_of KX T0.g rfl, List.forall_mem_cons.mpr ⟨mg_of KX T0.g rfl, List.forall_mem_cons.mpr ⟨mg_of KX T0.g rfl, List.forall_mem_cons.mpr ⟨mg_of KX T0.g rfl, List.forall_mem_cons.mpr ⟨mg_of KX T0.g rfl, List.forall_mem_cons.mpr ⟨mg_of KX T0.g rfl, List.forall_mem_cons.mpr ⟨mg_of KX T0.g rfl, List.forall_mem_cons.mpr ⟨mg_of KX T0.g rfl, fun _ h => nomatch h⟩⟩⟩⟩⟩⟩⟩⟩⟩⟩⟩⟩⟩⟩⟩) (List.forall_mem_cons.mpr ⟨mg_none_of KX T0.g rfl, List.forall_mem_cons.mpr ⟨mg_none_of KX T0.g rfl, List.forall_mem_cons.mpr ⟨mg_none_of KX T0.g rfl, List.forall_mem_cons.mpr ⟨mg_none_of KX T0.g rfl, List.forall_mem_cons.mpr ⟨mg_none_of KX T0.g rfl, List.forall_mem_cons.mpr ⟨mg_none_of KX T0.g rfl, List.forall_mem_cons.mpr ⟨mg_none_of KX T0.g rfl, List.forall_mem_cons.mpr ⟨mg_none_of KX T0.g rfl, List.forall_mem_cons.mpr ⟨mg_none_of KX T0.g rfl, List.forall_mem_cons.mpr ⟨mg_none_of KX T0.g rfl, List.forall_mem_cons.mpr ⟨mg_none_of KX T0.g rfl, List.forall_mem_cons.mpr ⟨mg_none_of KX T0.g rfl, List.forall_mem_cons.mpr ⟨mg_none_of KX T0.g rfl, List.forall_mem_cons.mpr ⟨mg_none_of KX T0.g rfl, List.forall_mem_cons.mpr ⟨mg_none_of KX T0.g rfl, List.forall_mem_cons.mpr ⟨mg_none_of KX T0.g rfl, fun _ h => nomatch h⟩⟩⟩⟩⟩⟩⟩⟩⟩⟩⟩⟩⟩⟩⟩⟩)
  have hsp : mg (PySem.Str.ofString "_special_chars_map") = some (.ref 45) := mg_of KX T0.g rfl
  have htw : mg (PySem.Str.ofString "_twin_re_1") = some (.ref 43) := mg_of KX T0.g rfl
  have hTG : ∀ T, ∃ TG : Mine.TabG (Mine.mkCx PySem.Challenge.rw_dn0069_07.row.prog w s₁.heap 61 57 Mine.qs07 mg mb Mine.fa07 T), TG.d = 45 := fun T => Mine.tabG_of X (Nat.ne_of_beq_eq_false rfl) rfl rfl (by decide +kernel) (by decide +kernel)
  have hPG : ∀ T, ∃ PG : Mine.PatG (Mine.mkCx PySem.Challenge.rw_dn0069_07.row.prog w s₁.heap 61 57 Mine.qs07 mg mb Mine.fa07 T), PG.P = 43 := fun T => ⟨{ P := 43, C := 42, codes := _, nP := Nat.ne_of_beq_eq_false rfl, nC := Nat.ne_of_beq_eq_false rfl, at0 := ⟨⟨_, _, _, _, _, 0, X 43 _ rfl, rfl⟩, ⟨_, X 42 _ rfl⟩, by decide +kernel⟩ }, rfl⟩
  have hfn : ∀ T, ∀ i fn, Mine.fns07 i = some fn → ∃ ε fd body ps, Mine.FnIs (Mine.mkCx PySem.Challenge.rw_dn0069_07.row.prog w s₁.heap 61 57 Mine.qs07 mg mb Mine.fa07 T) ε i fn fd body ps ∧ Mine.SoundSs (Mine.mkCx PySem.Challenge.rw_dn0069_07.row.prog w s₁.heap 61 57 Mine.qs07 mg mb Mine.fa07 T) ε body fn.body := by
    intro T
    obtain ⟨TG, hTGd⟩ := hTG T
    obtain ⟨PG, hPGP⟩ := hPG T
    have all : ∀ p ∈ ([(0, Mine.fn_escape), (1, Mine.fn_translate7), (2, Mine.fn_fspath), (3, Mine.fn_get_sep), (4, Mine.fn_join), (6, Mine.fn_dirname), (7, Mine.fn_splitroot), (8, Mine.fn_basename), (9, Mine.fn_normpath), (10, Mine.fn_abspath), (11, Mine.fn_relpath), (12, Mine.fn_commonprefix), (31, Mine.fn_law_runs), (32, Mine.fn_law_laid)] : List (Nat × Mine.Fn)), ∃ ε fd body ps, Mine.FnIs (Mine.mkCx PySem.Challenge.rw_dn0069_07.row.prog w s₁.heap 61 57 Mine.qs07 mg mb Mine.fa07 T) ε p.1 p.2 fd body ps ∧ Mine.SoundSs (Mine.mkCx PySem.Challenge.rw_dn0069_07.row.prog w s₁.heap 61 57 Mine.qs07 mg mb Mine.fa07 T) ε body p.2.body :=
      List.forall_mem_cons.mpr ⟨⟨_, _, _, _, Mine.FnIs.ofK (cx := (Mine.mkCx PySem.Challenge.rw_dn0069_07.row.prog w s₁.heap 61 57 Mine.qs07 mg mb Mine.fa07 T)) (ε := Mine.sc_escape) (i := 0) (a := 55) (fn := Mine.fn_escape) (body := (Mine.nthBody PySem.Challenge.pw_dn0069_07 5)) (ps := [PySem.Str.ofString "pattern"]) X rfl (Nat.ne_of_beq_eq_false rfl) rfl (by rfl) (Nat.ne_of_beq_eq_false rfl) (fun c q e => nomatch e) (Mine.bindOK_plain rfl (Mine.len1 fun _ => rfl)) rfl rfl rfl rfl rfl, Mine.snd_escape (hN T) TG (hTGd ▸ hsp)⟩,
      List.forall_mem_cons.mpr ⟨⟨_, _, _, _, Mine.FnIs.ofK (cx := (Mine.mkCx PySem.Challenge.rw_dn0069_07.row.prog w s₁.heap 61 57 Mine.qs07 mg mb Mine.fa07 T)) (ε := Mine.sc_translate7 61) (i := 1) (a := 62) (fn := Mine.fn_translate7) (body := (Mine.nthBody PySem.Challenge.pw_dn0069_07 7)) (ps := [PySem.Str.ofString "pat", PySem.Str.ofString "STAR", PySem.Str.ofString "QUESTION_MARK"]) X rfl (Nat.ne_of_beq_eq_false rfl) rfl (by rfl) (Nat.ne_of_beq_eq_false rfl) (fun c q e => by cases e; exact ⟨rfl, rfl⟩) (Mine.bindOK_plain rfl (Mine.len3 fun _ _ _ => rfl)) rfl rfl rfl rfl rfl, Mine.snd_translate7 (hN T) (Mine.lamG_of hT T0 (List.pairwise_singleton _ _)) PG (hPGP ▸ htw) rfl⟩,
      List.forall_mem_cons.mpr ⟨⟨_, _, _, _, Mine.FnIs.ofK (cx := (Mine.mkCx PySem.Challenge.rw_dn0069_07.row.prog w s₁.heap 61 57 Mine.qs07 mg mb Mine.fa07 T)) (ε := Mine.sc_fspath) (i := 2) (a := 135) (fn := Mine.fn_fspath) (body := (Mine.nthBody PySem.Challenge.pw_dn0069_07 16)) (ps := [PySem.Str.ofString "path"]) X rfl (Nat.ne_of_beq_eq_false rfl) rfl (by rfl) (Nat.ne_of_beq_eq_false rfl) (fun c q e => nomatch e) (Mine.bindOK_plain rfl (Mine.len1 fun _ => rfl)) rfl rfl rfl rfl rfl, Mine.snd_fspath (hN T)⟩,
      List.forall_mem_cons.mpr ⟨⟨_, _, _, _, Mine.FnIs.ofK (cx := (Mine.mkCx PySem.Challenge.rw_dn0069_07.row.prog w s₁.heap 61 57 Mine.qs07 mg mb Mine.fa07 T)) (ε := Mine.sc_get_sep) (i := 3) (a := 156) (fn := Mine.fn_get_sep) (body := (Mine.nthBody PySem.Challenge.pw_dn0069_07 21)) (ps := [PySem.Str.ofString "path"]) X rfl (Nat.ne_of_beq_eq_false rfl) rfl (by rfl) (Nat.ne_of_beq_eq_false rfl) (fun c q e => nomatch e) (Mine.bindOK_plain rfl (Mine.len1 fun _ => rfl)) rfl rfl rfl rfl rfl, Mine.snd_get_sep (hN T)⟩,
      List.forall_mem_cons.mpr ⟨⟨_, _, _, _, Mine.FnIs.ofK (cx := (Mine.mkCx PySem.Challenge.rw_dn0069_07.row.prog w s₁.heap 61 57 Mine.qs07 mg mb Mine.fa07 T)) (ε := Mine.sc_join) (i := 4) (a := 163) (fn := Mine.fn_join) (body := (Mine.nthBody PySem.Challenge.pw_dn0069_07 22)) (ps := [PySem.Str.ofString "a", PySem.Str.ofString "p"]) X rfl (Nat.ne_of_beq_eq_false rfl) rfl (by rfl) (Nat.ne_of_beq_eq_false rfl) (fun c q e => nomatch e) (Mine.bindOK_va rfl rfl fun v r => by cases r <;> kernel_rfl) rfl rfl rfl rfl rfl, Mine.snd_join (hN T)⟩,
      List.forall_mem_cons.mpr ⟨⟨_, _, _, _, Mine.FnIs.ofK (cx := (Mine.mkCx PySem.Challenge.rw_dn0069_07.row.prog w s₁.heap 61 57 Mine.qs07 mg mb Mine.fa07 T)) (ε := Mine.sc_dirname) (i := 6) (a := 184) (fn := Mine.fn_dirname) (body := (Mine.nthBody PySem.Challenge.pw_dn0069_07 25)) (ps := [PySem.Str.ofString "p"]) X rfl (Nat.ne_of_beq_eq_false rfl) rfl (by rfl) (Nat.ne_of_beq_eq_false rfl) (fun c q e => nomatch e) (Mine.bindOK_plain rfl (Mine.len1 fun _ => rfl)) rfl rfl rfl rfl rfl, Mine.snd_dirname (hN T)⟩,
      List.forall_mem_cons.mpr ⟨⟨_, _, _, _, Mine.FnIs.ofK (cx := (Mine.mkCx PySem.Challenge.rw_dn0069_07.row.prog w s₁.heap 61 57 Mine.qs07 mg mb Mine.fa07 T)) (ε := Mine.sc_splitroot) (i := 7) (a := 170) (fn := Mine.fn_splitroot) (body := (Mine.nthBody PySem.Challenge.pw_dn0069_07 23)) (ps := [PySem.Str.ofString "p"]) X rfl (Nat.ne_of_beq_eq_false rfl) rfl (by rfl) (Nat.ne_of_beq_eq_false rfl) (fun c q e => nomatch e) (Mine.bindOK_plain rfl (Mine.len1 fun _ => rfl)) rfl rfl rfl rfl rfl, Mine.snd_splitroot (hN T)⟩,
      List.forall_mem_cons.mpr ⟨⟨_, _, _, _, Mine.FnIs.ofK (cx := (Mine.mkCx PySem.Challenge.rw_dn0069_07.row.prog w s₁.heap 61 57 Mine.qs07 mg mb Mine.fa07 T)) (ε := Mine.sc_basename) (i := 8) (a := 177) (fn := Mine.fn_basename) (body := (Mine.nthBody PySem.Challenge.pw_dn0069_07 24)) (ps := [PySem.Str.ofString "p"]) X rfl (Nat.ne_of_beq_eq_false rfl) rfl (by rfl) (Nat.ne_of_beq_eq_false rfl) (fun c q e => nomatch e) (Mine.bindOK_plain rfl (Mine.len1 fun _ => rfl)) rfl rfl rfl rfl rfl, Mine.snd_basename (hN T)⟩,
      List.forall_mem_cons.mpr ⟨⟨_, _, _, _, Mine.FnIs.ofK (cx := (Mine.mkCx PySem.Challenge.rw_dn0069_07.row.prog w s₁.heap 61 57 Mine.qs07 mg mb Mine.fa07 T)) (ε := Mine.sc_normpath) (i := 9) (a := 191) (fn := Mine.fn_normpath) (body := (Mine.nthBody PySem.Challenge.pw_dn0069_07 26)) (ps := [PySem.Str.ofString "path"]) X rfl (Nat.ne_of_beq_eq_false rfl) rfl (by rfl) (Nat.ne_of_beq_eq_false rfl) (fun c q e => nomatch e) (Mine.bindOK_plain rfl (Mine.len1 fun _ => rfl)) rfl rfl rfl rfl rfl, Mine.snd_normpath (hN T)⟩,
      List.forall_mem_cons.mpr ⟨⟨_, _, _, _, Mine.FnIs.ofK (cx := (Mine.mkCx PySem.Challenge.rw_dn0069_07.row.prog w s₁.heap 61 57 Mine.qs07 mg mb Mine.fa07 T)) (ε := Mine.sc_abspath) (i := 10) (a := 198) (fn := Mine.fn_abspath) (body := (Mine.nthBody PySem.Challenge.pw_dn0069_07 27)) (ps := [PySem.Str.ofString "path"]) X rfl (Nat.ne_of_beq_eq_false rfl) rfl (by rfl) (Nat.ne_of_beq_eq_false rfl) (fun c q e => nomatch e) (Mine.bindOK_plain rfl (Mine.len1 fun _ => rfl)) rfl rfl rfl rfl rfl, Mine.snd_abspath (hN T)⟩,
      List.forall_mem_cons.mpr ⟨⟨_, _, _, _, Mine.FnIs.ofK (cx := (Mine.mkCx PySem.Challenge.rw_dn0069_07.row.prog w s₁.heap 61 57 Mine.qs07 mg mb Mine.fa07 T)) (ε := Mine.sc_relpath) (i := 11) (a := 206) (fn := Mine.fn_relpath) (body := (Mine.nthBody PySem.Challenge.pw_dn0069_07 28)) (ps := [PySem.Str.ofString "path", PySem.Str.ofString "start"]) X rfl (Nat.ne_of_beq_eq_false rfl) rfl (by rfl) (Nat.ne_of_beq_eq_false rfl) (fun c q e => nomatch e) (Mine.bindOK_dflt X (Nat.ne_of_beq_eq_false rfl) rfl rfl rfl (Mine.len2 fun _ _ => ⟨_, rfl, rfl⟩)) rfl rfl rfl rfl rfl, Mine.snd_relpath (hN T)⟩,
      List.forall_mem_cons.mpr ⟨⟨_, _, _, _, Mine.FnIs.ofK (cx := (Mine.mkCx PySem.Challenge.rw_dn0069_07.row.prog w s₁.heap 61 57 Mine.qs07 mg mb Mine.fa07 T)) (ε := Mine.sc_commonprefix) (i := 12) (a := 142) (fn := Mine.fn_commonprefix) (body := (Mine.nthBody PySem.Challenge.pw_dn0069_07 18)) (ps := [PySem.Str.ofString "m"]) X rfl (Nat.ne_of_beq_eq_false rfl) rfl (by rfl) (Nat.ne_of_beq_eq_false rfl) (fun c q e => nomatch e) (Mine.bindOK_plain rfl (Mine.len1 fun _ => rfl)) rfl rfl rfl rfl rfl, Mine.snd_commonprefix (hN T)⟩,
      List.forall_mem_cons.mpr ⟨⟨_, _, _, _, Mine.FnIs.ofK (cx := (Mine.mkCx PySem.Challenge.rw_dn0069_07.row.prog w s₁.heap 61 57 Mine.qs07 mg mb Mine.fa07 T)) (ε := Mine.sc_law_runs) (i := 31) (a := 213) (fn := Mine.fn_law_runs) (body := (Mine.nthBody PySem.Challenge.pw_dn0069_07 30)) (ps := [PySem.Str.ofString "parts", PySem.Str.ofString "star", PySem.Str.ofString "name"]) X rfl (Nat.ne_of_beq_eq_false rfl) rfl (by rfl) (Nat.ne_of_beq_eq_false rfl) (fun c q e => nomatch e) (Mine.bindOK_plain rfl (Mine.len3 fun _ _ _ => rfl)) rfl rfl rfl rfl rfl, Mine.snd_law_runs (hN T)⟩,
      List.forall_mem_cons.mpr ⟨⟨_, _, _, _, Mine.FnIs.ofK (cx := (Mine.mkCx PySem.Challenge.rw_dn0069_07.row.prog w s₁.heap 61 57 Mine.qs07 mg mb Mine.fa07 T)) (ε := Mine.sc_law_laid) (i := 32) (a := 220) (fn := Mine.fn_law_laid) (body := (Mine.nthBody PySem.Challenge.pw_dn0069_07 31)) (ps := [PySem.Str.ofString "marks", PySem.Str.ofString "runs"]) X rfl (Nat.ne_of_beq_eq_false rfl) rfl (by rfl) (Nat.ne_of_beq_eq_false rfl) (fun c q e => nomatch e) (Mine.bindOK_plain rfl (Mine.len2 fun _ _ => rfl)) rfl rfl rfl rfl rfl, Mine.snd_law_laid (hN T)⟩,
      fun _ h => nomatch h⟩⟩⟩⟩⟩⟩⟩⟩⟩⟩⟩⟩⟩⟩
    exact fun i fn h => all (i, fn) (Mine.lookup_memN h)
  obtain ⟨ρ', he⟩ := Mine.law07_true ns
  have hX : ∀ T, Mine.FnIs (Mine.mkCx PySem.Challenge.rw_dn0069_07.row.prog w s₁.heap 61 57 Mine.qs07 mg mb Mine.fa07 T) Mine.sc_law 35 Mine.fn_law _ (Mine.nthBody PySem.Challenge.pw_dn0069_07 32) [PySem.Str.ofString "script"] := fun T => Mine.FnIs.ofK (cx := (Mine.mkCx PySem.Challenge.rw_dn0069_07.row.prog w s₁.heap 61 57 Mine.qs07 mg mb Mine.fa07 T)) (ε := Mine.sc_law) (i := 35) (a := 225) (fn := Mine.fn_law) (body := (Mine.nthBody PySem.Challenge.pw_dn0069_07 32)) (ps := [PySem.Str.ofString "script"]) X rfl (Nat.ne_of_beq_eq_false rfl) rfl (by rfl) (Nat.ne_of_beq_eq_false rfl) (fun c q e => nomatch e) (Mine.bindOK_plain rfl (Mine.len1 fun _ => rfl)) rfl rfl rfl rfl rfl
  refine Mine.law_run1 (cx := (Mine.mkCx PySem.Challenge.rw_dn0069_07.row.prog w s₁.heap 61 57 Mine.qs07 mg mb Mine.fa07 fun k => k)) (i := 35) (i1 := 1) (n := 40) hcx hX (fun T hi => Mine.calls_ok (hcx T hi) (hfn T) 40) (fun T => Mine.soundS_assignO (x := PySem.Str.ofString "star") rfl (by decide) (Mine.sound_list (.cons (Mine.sound_const rfl) rfl .nil)) (fun _ _ _ => rfl)) (fun T hi => Mine.snd_law (hN T)) (ns := ns) (ρ := Mine.rho07 ns) rfl (Mine.rho07_plain ns) rfl (Nat.le_of_ble_eq_true rfl) he (s := s₁) (F := fun a => ∃ o, (ghostOf s₁.heap [(61, 57)]).get? a = some o) ⟨rfl, by decide, by decide, ⟨_, rfl⟩⟩ (Mine.wd_of hT rfl hg) ?_ (fun T F' s' wd os => Mine.goodWG_of hT (fun _ => rfl) (by wrow_post) wd os)
  exact .list ⟨_, ghost_ne hobj (by simp)⟩ hobj (by rw [hlen]; unfold Mine.lim; omega) (Mine.ints_rep hI)
