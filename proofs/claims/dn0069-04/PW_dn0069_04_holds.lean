import PyProof.Rows.All
import Wide.All
import OpenK.AllK
import Wide.FinOn
import Lean
import PySem.Challenge.RW_dn0069_04
set_option Elab.async false
set_option maxRecDepth 100000
set_option linter.all false
set_option genSizeOf false
set_option bootstrap.genMatcherCode false
section H04x
open PySem PySem.Calls PySem.W PyProof.Rows PySem.Builtin.Str
open PySem.W.X PySem.W.ZRun
set_option maxHeartbeats 0
namespace Mine
theorem wb {M : PySem.Model} {A : PySem.Around} {α β : Type} {E : PySem.Value → PySem.Shared → Prop} {s : PySem.Shared} {m : PySem.Sem α} {f : α → PySem.Sem β} {Q : β → PySem.Shared → Prop} (h : PySem.wpAny M A m (fun a s' => PySem.wpAny M A (f a) Q E s') E s) : PySem.wpAny M A (m >>= f) Q E s := PySem.wpAny_bind h
abbrev VP := PySem.Value → PySem.Shared → Prop
abbrev AP := PySem.Addr → Prop
abbrev SV := PySem.Str → Option PySem.Value
abbrev NAd := Nat → PySem.Addr
noncomputable abbrev tuO (x : Array PySem.Value) : Obj := ⟨.type "tuple", none, .seq x 0, #[]⟩
variable (P : Params)
noncomputable def hGo : List Nat → Option Stmt → Option Stmt
  | [], s => s
  | j :: r, some (.ClassDef _ _ _ b _ _ _ _ _ _ _) => hGo r b[j]?
  | j :: r, some (.FunctionDef _ _ b _ _ _ _ _ _ _) => hGo r b[j]?
  | _, _ => none
noncomputable def hAt (p : Program) (l : List Nat) : Option Stmt := match l with
  | [] => none
  | i :: r => hGo r p.main.body[i]?
noncomputable def hPs (s : Option Stmt) : Arguments := match s with
  | some (.FunctionDef _ a _ _ _ _ _ _ _ _) => a
  | _ => default
noncomputable def hBd (s : Option Stmt) : List Stmt := match s with
  | some (.FunctionDef _ _ b _ _ _ _ _ _ _) => b
  | _ => []
noncomputable def hSc (s : Option Stmt) : Scope := match s with
  | some (.FunctionDef _ _ _ _ _ _ s _ _ _) => s
  | _ => default
noncomputable abbrev hs (x : String) : PySem.Str := PySem.Str.ofString x
noncomputable abbrev hk (P : Params) (x : String) (t : Nat) (v : PySem.Value) : DictEntry := ⟨PyData.keyHash P (hs x), .str (hs x) t, v⟩
noncomputable abbrev hW : Program := PySem.Challenge.pw_dn0069_04
noncomputable def view04 : Program := PySem.W.view PySem.Challenge.pw_dn0069_04 [0, 1, 3, 5, 7, 8, 10, 12, 13, 14, 16, 17, 19, 21, 22, 23, 25, 26, 27, 28, 29, 30]
noncomputable def ho1 : Obj := ⟨.type "dict", none, .dict #[hk P "builtins" 162 (.ref 4), hk P "__main__" 163 (.ref 5), hk P "_sre" 244 (.ref 12)] 3, #[]⟩
noncomputable def ho2 : Obj := ⟨.none, none, .dict #[⟨PyData.keyHash P (⟨#[105, 109, 112, 111, 114, 116, 46, 108, 111, 97, 100, 101, 100, 46, 95, 115, 114, 101]⟩), .str (⟨#[105, 109, 112, 111, 114, 116, 46, 108, 111, 97, 100, 101, 100, 46, 95, 115, 114, 101]⟩) 183, .bool true⟩, hk P "class._frozen_importlib.BuiltinImporter" 185 (.ref 14), ⟨PyData.keyHash P (⟨#[119, 97, 116, 99, 104, 101, 100, 46, 105, 109, 112, 111, 114, 116]⟩), .str (⟨#[119, 97, 116, 99, 104, 101, 100, 46, 105, 109, 112, 111, 114, 116]⟩) 206, .ref 18⟩, hk P "class._frozen_importlib.ModuleSpec" 216 (.ref 22), hk P "sys.modules.booked-epoch" 245 (.int (3) 0), ⟨PyData.keyHash P (⟨#[105, 109, 112, 111, 114, 116, 46, 108, 97, 116, 101, 114, 45, 108, 97, 105, 100, 46, 95, 115, 114, 101]⟩), .str (⟨#[105, 109, 112, 111, 114, 116, 46, 108, 97, 116, 101, 114, 45, 108, 97, 105, 100, 46, 95, 115, 114, 101]⟩) 270, .bool true⟩, hk P "watched.library" 272 (.ref 27), ⟨PyData.keyHash P (hs "watched.library-objects"), .str (hs "watched.library-objects") 0, .str ((⟨#[12]⟩ : PySem.Str)) 0⟩, ⟨PyData.keyHash P (hs "watched.library-deep._sre"), .str (hs "watched.library-deep._sre") 273, .str ((⟨#[4, 0, 0, 11, 4, 0, 0, 11, 4, 0, 0, 3, 4, 0, 0, 11, 8, 4, 100, 105, 99, 116, 2]⟩ : PySem.Str)) 0⟩] 9, #[]⟩
noncomputable def ho3 : Obj := ⟨.type "dict", none, .dict #[hk P "__name__" 165 (.str (hs "__main__") 164), hk P "__doc__" 166 (.none), hk P "__package__" 167 (.none), hk P "__loader__" 168 (.builtin "__main__.__loader__#opaque"), hk P "__spec__" 169 (.none), hk P "__annotations__" 170 (.ref 6), hk P "__builtins__" 171 (.ref 4), hk P "__file__" 173 (.str (hs "/claim/cut.py") 172), hk P "__cached__" 174 (.none), hk P "_sre" 275 (.ref 12)] 10, #[]⟩
noncomputable def ho11 : Obj := ⟨.type "dict", none, .dict #[hk P "__name__" 247 (.str (hs "_sre") 246), hk P "__doc__" 248 (.none), hk P "__package__" 250 (.str (hs "") 249), hk P "__loader__" 251 (.builtin "off-the-table:_sre.__loader__:shared#opaque"), hk P "__spec__" 252 (.builtin "off-the-table:_sre.__spec__:shared#opaque"), hk P "compile" 253 (.builtin "_sre.compile"), hk P "template" 254 (.builtin "off-the-table:_sre.template:shared#opaque"), hk P "getcodesize" 255 (.builtin "off-the-table:_sre.getcodesize:shared#opaque"), hk P "ascii_iscased" 256 (.builtin "off-the-table:_sre.ascii_iscased:shared#opaque"), hk P "unicode_iscased" 257 (.builtin "off-the-table:_sre.unicode_iscased:shared#opaque"), hk P "ascii_tolower" 258 (.builtin "off-the-table:_sre.ascii_tolower:shared#opaque"), hk P "unicode_tolower" 259 (.builtin "off-the-table:_sre.unicode_tolower:shared#opaque"), hk P "MAGIC" 261 (.int (20230612) 260), hk P "CODESIZE" 263 (.int (4) 262), hk P "MAXREPEAT" 265 (.int (4294967295) 264), hk P "MAXGROUPS" 267 (.int (1073741823) 266), hk P "copyright" 269 (.str (hs " SRE 2.2.2 Copyright (c) 1997-2002 by Secret Labs AB ") 268)] 17, #[]⟩
noncomputable def ho12 : Obj := ⟨.type "module", (some 11), .plain, #[]⟩
noncomputable def ho13 : Obj := ⟨.type "dict", none, .dict #[hk P "__module__" 189 (.str (hs "_frozen_importlib") 186), hk P "__firstlineno__" 190 (.int (971) 187), hk P "__doc__" 191 (.builtin "_frozen_importlib.BuiltinImporter.__doc__:str#opaque"), hk P "_ORIGIN" 192 (.str (hs "built-in") 188), hk P "find_spec" 193 (.builtin "_frozen_importlib.BuiltinImporter.find_spec#opaque"), hk P "create_module" 194 (.builtin "_frozen_importlib.BuiltinImporter.create_module#opaque"), hk P "exec_module" 195 (.builtin "_frozen_importlib.BuiltinImporter.exec_module#opaque"), hk P "get_code" 196 (.builtin "_frozen_importlib.BuiltinImporter.get_code#opaque"), hk P "get_source" 197 (.builtin "_frozen_importlib.BuiltinImporter.get_source#opaque"), hk P "is_package" 198 (.builtin "_frozen_importlib.BuiltinImporter.is_package#opaque"), hk P "load_module" 199 (.builtin "_frozen_importlib.BuiltinImporter.load_module#opaque"), hk P "__static_attributes__" 200 (.ref 15), hk P "__dict__" 202 (.ref 16), hk P "__weakref__" 204 (.ref 17)] 14, #[]⟩
noncomputable def ho14 : Obj := ⟨.type "type", none, .cls ⟨hs "BuiltinImporter", [.type "object"], [.ref 14, .type "object"], 13, hs "BuiltinImporter", true, [], [], false, none, false⟩, #[]⟩
noncomputable def ho15 : Obj := tuO #[]
noncomputable def ho16 : Obj := ⟨.type "getset_descriptor", none, .fields #[.str (hs "__dict__") 201, .ref 14, .builtin "function.__dict__", .builtin "function.__dict__#set"], #[]⟩
noncomputable def ho17 : Obj := ⟨.type "getset_descriptor", none, .fields #[.str (hs "__weakref__") 203, .ref 14, .builtin "ExceptionGroup.__weakref__", .none], #[]⟩
noncomputable def ho18 : Obj := ⟨.none, none, .seq #[.int (13) 0, .str ((⟨#[6, 189, 10, 95, 95, 109, 111, 100, 117, 108, 101, 95, 95, 6, 186, 17, 95, 102, 114, 111, 122, 101, 110, 95, 105, 109, 112, 111, 114, 116, 108, 105, 98, 6, 190, 15, 95, 95, 102, 105, 114, 115, 116, 108, 105, 110, 101, 110, 111, 95, 95, 4, 187, 0, 971, 6, 191, 7, 95, 95, 100, 111, 99, 95, 95, 9, 52, 95, 102, 114, 111, 122, 101, 110, 95, 105, 109, 112, 111, 114, 116, 108, 105, 98, 46, 66, 117, 105, 108, 116, 105, 110, 73, 109, 112, 111, 114, 116, 101, 114, 46, 95, 95, 100, 111, 99, 95, 95, 58, 115, 116, 114, 35, 111, 112, 97, 113, 117, 101, 6, 192, 7, 95, 79, 82, 73, 71, 73, 78, 6, 188, 8, 98, 117, 105, 108, 116, 45, 105, 110, 6, 193, 9, 102, 105, 110, 100, 95, 115, 112, 101, 99, 9, 50, 95, 102, 114, 111, 122, 101, 110, 95, 105, 109, 112, 111, 114, 116, 108, 105, 98, 46, 66, 117, 105, 108, 116, 105, 110, 73, 109, 112, 111, 114, 116, 101, 114, 46, 102, 105, 110, 100, 95, 115, 112, 101, 99, 35, 111, 112, 97, 113, 117, 101, 6, 194, 13, 99, 114, 101, 97, 116, 101, 95, 109, 111, 100, 117, 108, 101, 9, 54, 95, 102, 114, 111, 122, 101, 110, 95, 105, 109, 112, 111, 114, 116, 108, 105, 98, 46, 66, 117, 105, 108, 116, 105, 110, 73, 109, 112, 111, 114, 116, 101, 114, 46, 99, 114, 101, 97, 116, 101, 95, 109, 111, 100, 117, 108, 101, 35, 111, 112, 97, 113, 117, 101, 6, 195, 11, 101, 120, 101, 99, 95, 109, 111, 100, 117, 108, 101, 9, 52, 95, 102, 114, 111, 122, 101, 110, 95, 105, 109, 112, 111, 114, 116, 108, 105, 98, 46, 66, 117, 105, 108, 116, 105, 110, 73, 109, 112, 111, 114, 116, 101, 114, 46, 101, 120, 101, 99, 95, 109, 111, 100, 117, 108, 101, 35, 111, 112, 97, 113, 117, 101, 6, 196, 8, 103, 101, 116, 95, 99, 111, 100, 101, 9, 49, 95, 102, 114, 111, 122, 101, 110, 95, 105, 109, 112, 111, 114, 116, 108, 105, 98, 46, 66, 117, 105, 108, 116, 105, 110, 73, 109, 112, 111, 114, 116, 101, 114, 46, 103, 101, 116, 95, 99, 111, 100, 101, 35, 111, 112, 97, 113, 117, 101, 6, 197, 10, 103, 101, 116, 95, 115, 111, 117, 114, 99, 101, 9, 51, 95, 102, 114, 111, 122, 101, 110, 95, 105, 109, 112, 111, 114, 116, 108, 105, 98, 46, 66, 117, 105, 108, 116, 105, 110, 73, 109, 112, 111, 114, 116, 101, 114, 46, 103, 101, 116, 95, 115, 111, 117, 114, 99, 101, 35, 111, 112, 97, 113, 117, 101, 6, 198, 10, 105, 115, 95, 112, 97, 99, 107, 97, 103, 101, 9, 51, 95, 102, 114, 111, 122, 101, 110, 95, 105, 109, 112, 111, 114, 116, 108, 105, 98, 46, 66, 117, 105, 108, 116, 105, 110, 73, 109, 112, 111, 114, 116, 101, 114, 46, 105, 115, 95, 112, 97, 99, 107, 97, 103, 101, 35, 111, 112, 97, 113, 117, 101, 6, 199, 11, 108, 111, 97, 100, 95, 109, 111, 100, 117, 108, 101, 9, 52, 95, 102, 114, 111, 122, 101, 110, 95, 105, 109, 112, 111, 114, 116, 108, 105, 98, 46, 66, 117, 105, 108, 116, 105, 110, 73, 109, 112, 111, 114, 116, 101, 114, 46, 108, 111, 97, 100, 95, 109, 111, 100, 117, 108, 101, 35, 111, 112, 97, 113, 117, 101, 6, 200, 21, 95, 95, 115, 116, 97, 116, 105, 99, 95, 97, 116, 116, 114, 105, 98, 117, 116, 101, 115, 95, 95, 4, 0, 0, 15, 6, 202, 8, 95, 95, 100, 105, 99, 116, 95, 95, 4, 0, 0, 16, 6, 204, 11, 95, 95, 119, 101, 97, 107, 114, 101, 102, 95, 95, 4, 0, 0, 17]⟩ : PySem.Str)) 0, .bool true, .bool true, .str (hs "") 205, .int (21) 0, .str ((⟨#[6, 227, 10, 95, 95, 109, 111, 100, 117, 108, 101, 95, 95, 6, 217, 17, 95, 102, 114, 111, 122, 101, 110, 95, 105, 109, 112, 111, 114, 116, 108, 105, 98, 6, 228, 15, 95, 95, 102, 105, 114, 115, 116, 108, 105, 110, 101, 110, 111, 95, 95, 4, 218, 0, 562, 6, 229, 7, 95, 95, 100, 111, 99, 95, 95, 9, 47, 95, 102, 114, 111, 122, 101, 110, 95, 105, 109, 112, 111, 114, 116, 108, 105, 98, 46, 77, 111, 100, 117, 108, 101, 83, 112, 101, 99, 46, 95, 95, 100, 111, 99, 95, 95, 58, 115, 116, 114, 35, 111, 112, 97, 113, 117, 101, 6, 230, 8, 95, 95, 105, 110, 105, 116, 95, 95, 9, 44, 95, 102, 114, 111, 122, 101, 110, 95, 105, 109, 112, 111, 114, 116, 108, 105, 98, 46, 77, 111, 100, 117, 108, 101, 83, 112, 101, 99, 46, 95, 95, 105, 110, 105, 116, 95, 95, 35, 111, 112, 97, 113, 117, 101, 6, 231, 8, 95, 95, 114, 101, 112, 114, 95, 95, 9, 44, 95, 102, 114, 111, 122, 101, 110, 95, 105, 109, 112, 111, 114, 116, 108, 105, 98, 46, 77, 111, 100, 117, 108, 101, 83, 112, 101, 99, 46, 95, 95, 114, 101, 112, 114, 95, 95, 35, 111, 112, 97, 113, 117, 101, 6, 232, 6, 95, 95, 101, 113, 95, 95, 9, 42, 95, 102, 114, 111, 122, 101, 110, 95, 105, 109, 112, 111, 114, 116, 108, 105, 98, 46, 77, 111, 100, 117, 108, 101, 83, 112, 101, 99, 46, 95, 95, 101, 113, 95, 95, 35, 111, 112, 97, 113, 117, 101, 6, 233, 6, 99, 97, 99, 104, 101, 100, 9, 42, 95, 102, 114, 111, 122, 101, 110, 95, 105, 109, 112, 111, 114, 116, 108, 105, 98, 46, 77, 111, 100, 117, 108, 101, 83, 112, 101, 99, 46, 99, 97, 99, 104, 101, 100, 35, 111, 112, 97, 113, 117, 101, 6, 234, 6, 112, 97, 114, 101, 110, 116, 9, 42, 95, 102, 114, 111, 122, 101, 110, 95, 105, 109, 112, 111, 114, 116, 108, 105, 98, 46, 77, 111, 100, 117, 108, 101, 83, 112, 101, 99, 46, 112, 97, 114, 101, 110, 116, 35, 111, 112, 97, 113, 117, 101, 6, 235, 12, 104, 97, 115, 95, 108, 111, 99, 97, 116, 105, 111, 110, 9, 48, 95, 102, 114, 111, 122, 101, 110, 95, 105, 109, 112, 111, 114, 116, 108, 105, 98, 46, 77, 111, 100, 117, 108, 101, 83, 112, 101, 99, 46, 104, 97, 115, 95, 108, 111, 99, 97, 116, 105, 111, 110, 35, 111, 112, 97, 113, 117, 101, 6, 236, 21, 95, 95, 115, 116, 97, 116, 105, 99, 95, 97, 116, 116, 114, 105, 98, 117, 116, 101, 115, 95, 95, 4, 0, 0, 23, 6, 238, 8, 95, 95, 100, 105, 99, 116, 95, 95, 4, 0, 0, 24, 6, 240, 11, 95, 95, 119, 101, 97, 107, 114, 101, 102, 95, 95, 4, 0, 0, 25, 6, 241, 8, 95, 95, 104, 97, 115, 104, 95, 95, 0]⟩ : PySem.Str)) 0, .bool true, .bool true, .str (hs "") 242] 1, #[]⟩
noncomputable def ho19 : Obj := ⟨.type "list", none, .seq #[] 0, #[]⟩
noncomputable def ho20 : Obj := ⟨.type "dict", none, .dict #[hk P "name" 208 (.str (hs "_sre") 207), hk P "loader" 209 (.ref 14), hk P "origin" 210 (.str (hs "built-in") 184), hk P "loader_state" 211 (.none), hk P "submodule_search_locations" 212 (.none), hk P "_uninitialized_submodules" 213 (.ref 19), hk P "_set_fileattr" 214 (.bool false), hk P "_cached" 215 (.none), hk P "_initializing" 243 (.bool false)] 9, #[]⟩
noncomputable def ho21 : Obj := ⟨.type "dict", none, .dict #[hk P "__module__" 227 (.str (hs "_frozen_importlib") 217), hk P "__firstlineno__" 228 (.int (562) 218), hk P "__doc__" 229 (.builtin "_frozen_importlib.ModuleSpec.__doc__:str#opaque"), hk P "__init__" 230 (.builtin "_frozen_importlib.ModuleSpec.__init__#opaque"), hk P "__repr__" 231 (.builtin "_frozen_importlib.ModuleSpec.__repr__#opaque"), hk P "__eq__" 232 (.builtin "_frozen_importlib.ModuleSpec.__eq__#opaque"), hk P "cached" 233 (.builtin "_frozen_importlib.ModuleSpec.cached#opaque"), hk P "parent" 234 (.builtin "_frozen_importlib.ModuleSpec.parent#opaque"), hk P "has_location" 235 (.builtin "_frozen_importlib.ModuleSpec.has_location#opaque"), hk P "__static_attributes__" 236 (.ref 23), hk P "__dict__" 238 (.ref 24), hk P "__weakref__" 240 (.ref 25), hk P "__hash__" 241 (.none)] 13, #[]⟩
noncomputable def ho22 : Obj := ⟨.type "type", none, .cls ⟨hs "ModuleSpec", [.type "object"], [.ref 22, .type "object"], 21, hs "ModuleSpec", true, [], [], false, none, false⟩, #[]⟩
noncomputable def ho23 : Obj := tuO #[.str (hs "_cached") 219, .str (hs "_set_fileattr") 220, .str (hs "_uninitialized_submodules") 221, .str (hs "loader") 222, .str (hs "loader_state") 223, .str (hs "name") 224, .str (hs "origin") 225, .str (hs "submodule_search_locations") 226]
noncomputable def ho24 : Obj := ⟨.type "getset_descriptor", none, .fields #[.str (hs "__dict__") 237, .ref 22, .builtin "function.__dict__", .builtin "function.__dict__#set"], #[]⟩
noncomputable def ho25 : Obj := ⟨.type "getset_descriptor", none, .fields #[.str (hs "__weakref__") 239, .ref 22, .builtin "ExceptionGroup.__weakref__", .none], #[]⟩
noncomputable def ho26 : Obj := ⟨.ref 22, (some 20), .plain, #[]⟩
noncomputable def ho27 : Obj := ⟨.none, none, .seq #[.int (11) 0, .str ((⟨#[6, 247, 8, 95, 95, 110, 97, 109, 101, 95, 95, 6, 246, 4, 95, 115, 114, 101, 6, 248, 7, 95, 95, 100, 111, 99, 95, 95, 0, 6, 250, 11, 95, 95, 112, 97, 99, 107, 97, 103, 101, 95, 95, 6, 249, 0, 6, 251, 10, 95, 95, 108, 111, 97, 100, 101, 114, 95, 95, 4, 0, 0, 14, 6, 252, 8, 95, 95, 115, 112, 101, 99, 95, 95, 4, 0, 0, 26, 6, 253, 7, 99, 111, 109, 112, 105, 108, 101, 9, 12, 95, 115, 114, 101, 46, 99, 111, 109, 112, 105, 108, 101, 6, 254, 8, 116, 101, 109, 112, 108, 97, 116, 101, 9, 13, 95, 115, 114, 101, 46, 116, 101, 109, 112, 108, 97, 116, 101, 6, 255, 11, 103, 101, 116, 99, 111, 100, 101, 115, 105, 122, 101, 9, 16, 95, 115, 114, 101, 46, 103, 101, 116, 99, 111, 100, 101, 115, 105, 122, 101, 6, 256, 13, 97, 115, 99, 105, 105, 95, 105, 115, 99, 97, 115, 101, 100, 9, 18, 95, 115, 114, 101, 46, 97, 115, 99, 105, 105, 95, 105, 115, 99, 97, 115, 101, 100, 6, 257, 15, 117, 110, 105, 99, 111, 100, 101, 95, 105, 115, 99, 97, 115, 101, 100, 9, 20, 95, 115, 114, 101, 46, 117, 110, 105, 99, 111, 100, 101, 95, 105, 115, 99, 97, 115, 101, 100, 6, 258, 13, 97, 115, 99, 105, 105, 95, 116, 111, 108, 111, 119, 101, 114, 9, 18, 95, 115, 114, 101, 46, 97, 115, 99, 105, 105, 95, 116, 111, 108, 111, 119, 101, 114, 6, 259, 15, 117, 110, 105, 99, 111, 100, 101, 95, 116, 111, 108, 111, 119, 101, 114, 9, 20, 95, 115, 114, 101, 46, 117, 110, 105, 99, 111, 100, 101, 95, 116, 111, 108, 111, 119, 101, 114, 6, 261, 5, 77, 65, 71, 73, 67, 4, 260, 0, 20230612, 6, 263, 8, 67, 79, 68, 69, 83, 73, 90, 69, 4, 262, 0, 4, 6, 265, 9, 77, 65, 88, 82, 69, 80, 69, 65, 84, 4, 264, 0, 4294967295, 6, 267, 9, 77, 65, 88, 71, 82, 79, 85, 80, 83, 4, 266, 0, 1073741823, 6, 269, 9, 99, 111, 112, 121, 114, 105, 103, 104, 116, 6, 268, 53, 32, 83, 82, 69, 32, 50, 46, 50, 46, 50, 32, 67, 111, 112, 121, 114, 105, 103, 104, 116, 32, 40, 99, 41, 32, 49, 57, 57, 55, 45, 50, 48, 48, 50, 32, 98, 121, 32, 83, 101, 99, 114, 101, 116, 32, 76, 97, 98, 115, 32, 65, 66, 32]⟩ : PySem.Str)) 0, .bool true, .bool false, .str (hs "_sre") 271] 0, #[]⟩
noncomputable def hp0 : Heap := ⟨Array.mk [boot_o_0 P, ho1 P, ho2 P, ho3 P, boot_o_4 P, boot_o_5 P, boot_o_6 P, boot_o_7 P, boot_o_8 P, boot_o_9 P, boot_o_10 P, ho11 P, ho12, ho13 P, ho14, ho15, ho16, ho17, ho18, ho19, ho20 P, ho21 P, ho22, ho23, ho24, ho25, ho26, ho27], { }⟩
noncomputable def ho28 : Obj := tuO #[]
noncomputable def ho29 : Obj := ⟨.none, none, .fields #[], #[]⟩
noncomputable def ho30 : Obj := ⟨.type "code", none, .fields #[.str (hs "<module>") 277, .str (hs "<module>") 278, .str (hs "/claim/cut.py") 279, .int (1) 0, .int (0) 0, .int (0) 0, .int (0) 0, .int (0) 0, .ref 28, .bool false, .int (276) 0, .ref 29, .none, .none, .none, .none, .int (280) 0, .int (1) 0, .str (hs "/claim/cut.py") 281], #[]⟩
noncomputable def ho31 : Obj := ⟨.type "frame", none, .plain, #[some (.ref 30), some (.ref 3), some (.ref 3), none, some (.str (hs "__main__") 164), none, some (.ref 0)]⟩
noncomputable def hp_pre : Heap := ⟨Array.mk [boot_o_0 P, ho1 P, ho2 P, ho3 P, boot_o_4 P, boot_o_5 P, boot_o_6 P, boot_o_7 P, boot_o_8 P, boot_o_9 P, boot_o_10 P, ho11 P, ho12, ho13 P, ho14, ho15, ho16, ho17, ho18, ho19, ho20 P, ho21 P, ho22, ho23, ho24, ho25, ho26, ho27, ho28, ho29, ho30, ho31], { }⟩
noncomputable def ho3x : Obj := ⟨.type "dict", none, .dict #[hk P "__name__" 165 (.str (hs "os") 289), hk P "__doc__" 166 (.none), hk P "__package__" 167 (.none), hk P "__loader__" 168 (.builtin "__main__.__loader__#opaque"), hk P "__spec__" 169 (.none), hk P "__annotations__" 170 (.ref 6), hk P "__builtins__" 171 (.ref 4), hk P "__file__" 173 (.str (hs "/claim/cut.py") 172), hk P "__cached__" 174 (.none), hk P "_sre" 275 (.ref 12), hk P "_wall" 288 (.ref 38), hk P "_plain_name" 299 (.ref 45)] 12, #[]⟩
noncomputable def ho29x : Obj := ⟨.none, none, .fields #[.int (2) 0, .int (0) 0, .ref 37, .int (6) 0, .int (0) 0, .ref 44], #[]⟩
noncomputable def ho32 : Obj := tuO #[]
noncomputable def ho33 : Obj := ⟨.none, none, .fields #[], #[]⟩
noncomputable def ho34 : Obj := tuO #[.str (hs "k") 285]
noncomputable def ho35 : Obj := tuO #[]
noncomputable def ho36 : Obj := ⟨.none, none, .func ⟨hs "_wall", hs "_wall", hPs (hAt hW [1]), .stmts (hBd (hAt hW [1])), hSc (hAt hW [1]), 0, [], .none, .none, .none, .none, none, .none, .none, 0⟩, #[]⟩
noncomputable def ho37 : Obj := ⟨.type "code", none, .fields #[.str (hs "_wall") 282, .str (hs "_wall") 283, .str (hs "/claim/cut.py") 284, .int (2) 0, .int (1) 0, .int (0) 0, .int (0) 0, .int (3) 0, .ref 32, .bool true, .int (276) 0, .ref 33, .none, .ref 34, .ref 35, .ref 36, .int (286) 0, .int (2) 0, .str (hs "/claim/cut.py") 287], #[]⟩
noncomputable def ho38 : Obj := ⟨.type "function", none, .func ⟨hs "_wall", hs "_wall", hPs (hAt hW [1]), .stmts (hBd (hAt hW [1])), hSc (hAt hW [1]), 3, [], .none, .none, .none, .str (hs "__main__") 164, none, .ref 37, .none, 0⟩, #[]⟩
noncomputable def ho39 : Obj := tuO #[]
noncomputable def ho40 : Obj := ⟨.none, none, .fields #[], #[]⟩
noncomputable def ho41 : Obj := tuO #[.str (hs "x") 294, .str (hs "what") 295, .str (hs "kind") 296]
noncomputable def ho42 : Obj := tuO #[]
noncomputable def ho43 : Obj := ⟨.none, none, .func ⟨hs "_plain_name", hs "_plain_name", hPs (hAt hW [3]), .stmts (hBd (hAt hW [3])), hSc (hAt hW [3]), 0, [], .none, .none, .none, .none, none, .none, .none, 0⟩, #[]⟩
noncomputable def ho44 : Obj := ⟨.type "code", none, .fields #[.str (hs "_plain_name") 291, .str (hs "_plain_name") 292, .str (hs "/claim/cut.py") 293, .int (6) 0, .int (2) 0, .int (0) 0, .int (0) 0, .int (3) 0, .ref 39, .bool true, .int (276) 0, .ref 40, .none, .ref 41, .ref 42, .ref 43, .int (297) 0, .int (6) 0, .str (hs "/claim/cut.py") 298], #[]⟩
noncomputable def ho45 : Obj := ⟨.type "function", none, .func ⟨hs "_plain_name", hs "_plain_name", hPs (hAt hW [3]), .stmts (hBd (hAt hW [3])), hSc (hAt hW [3]), 3, [], .none, .none, .none, .str (hs "os") 289, none, .ref 44, .none, 0⟩, #[]⟩
noncomputable def hp3 : Heap := ⟨Array.mk [boot_o_0 P, ho1 P, ho2 P, ho3x P, boot_o_4 P, boot_o_5 P, boot_o_6 P, boot_o_7 P, boot_o_8 P, boot_o_9 P, boot_o_10 P, ho11 P, ho12, ho13 P, ho14, ho15, ho16, ho17, ho18, ho19, ho20 P, ho21 P, ho22, ho23, ho24, ho25, ho26, ho27, ho28, ho29x, ho30, ho31, ho32, ho33, ho34, ho35, ho36, ho37, ho38, ho39, ho40, ho41, ho42, ho43, ho44, ho45], { }⟩
noncomputable def ho3xx : Obj := ⟨.type "dict", none, .dict #[hk P "__name__" 165 (.str (hs "abc") 300), hk P "__doc__" 166 (.none), hk P "__package__" 167 (.none), hk P "__loader__" 168 (.builtin "__main__.__loader__#opaque"), hk P "__spec__" 169 (.none), hk P "__annotations__" 170 (.ref 6), hk P "__builtins__" 171 (.ref 4), hk P "__file__" 173 (.str (hs "/claim/cut.py") 172), hk P "__cached__" 174 (.none), hk P "_sre" 275 (.ref 12), hk P "_wall" 288 (.ref 38), hk P "_plain_name" 299 (.ref 45)] 12, #[]⟩
noncomputable def hp4 : Heap := ⟨Array.mk [boot_o_0 P, ho1 P, ho2 P, ho3xx P, boot_o_4 P, boot_o_5 P, boot_o_6 P, boot_o_7 P, boot_o_8 P, boot_o_9 P, boot_o_10 P, ho11 P, ho12, ho13 P, ho14, ho15, ho16, ho17, ho18, ho19, ho20 P, ho21 P, ho22, ho23, ho24, ho25, ho26, ho27, ho28, ho29x, ho30, ho31, ho32, ho33, ho34, ho35, ho36, ho37, ho38, ho39, ho40, ho41, ho42, ho43, ho44, ho45], { }⟩
noncomputable def ho3xxx : Obj := ⟨.type "dict", none, .dict #[hk P "__name__" 165 (.str (hs "law_dn0069_04") 651), hk P "__doc__" 166 (.none), hk P "__package__" 167 (.none), hk P "__loader__" 168 (.builtin "__main__.__loader__#opaque"), hk P "__spec__" 169 (.none), hk P "__annotations__" 170 (.ref 6), hk P "__builtins__" 171 (.ref 4), hk P "__file__" 173 (.str (hs "/claim/cut.py") 172), hk P "__cached__" 174 (.none), hk P "_sre" 275 (.ref 12), hk P "_wall" 288 (.ref 38), hk P "_plain_name" 299 (.ref 45), hk P "ABCMeta" 325 (.ref 62), hk P "_ABCLike" 368 (.ref 95), hk P "_abc_plain_meta" 375 (.ref 104), hk P "fspath" 387 (.ref 111), hk P "commonprefix" 400 (.ref 118), hk P "_check_arg_types" 411 (.ref 125), hk P "_twin_re_1" 449 (.ref 130), hk P "_special_chars_map" 597 (.ref 132), hk P "escape" 604 (.ref 142), hk P "_translate" 625 (.ref 149), hk P "_get_sep" 634 (.ref 156), hk P "dirname" 644 (.ref 163), hk P "commonpath" 650 (.ref 168), hk P "_law_one" 666 (.ref 175), hk P "_law_takes" 672 (.ref 180), hk P "_law_quoted" 678 (.ref 185), hk P "_law_drawn" 688 (.ref 192), hk P "_law_alike" 697 (.ref 199), hk P "law" 703 (.ref 204)] 31, #[]⟩
noncomputable def ho29xx : Obj := ⟨.none, none, .fields #[.int (2) 0, .int (0) 0, .ref 37, .int (6) 0, .int (0) 0, .ref 44, .int (12) 0, .int (0) 0, .ref 51, .int (17) 0, .int (0) 0, .ref 70, .int (32) 0, .int (0) 0, .ref 103, .int (36) 0, .int (0) 0, .ref 110, .int (53) 0, .int (0) 0, .ref 117, .int (64) 0, .int (0) 0, .ref 124, .int (78) 0, .int (0) 0, .ref 141, .int (85) 0, .int (0) 0, .ref 148, .int (148) 0, .int (0) 0, .ref 155, .int (153) 0, .int (0) 0, .ref 162, .int (161) 0, .int (0) 0, .ref 167, .int (191) 0, .int (0) 0, .ref 174, .int (215) 0, .int (0) 0, .ref 179, .int (223) 0, .int (0) 0, .ref 184, .int (225) 0, .int (0) 0, .ref 191, .int (234) 0, .int (0) 0, .ref 198, .int (239) 0, .int (0) 0, .ref 203], #[]⟩
noncomputable def ho46 : Obj := tuO #[.type "type"]
noncomputable def ho47 : Obj := ⟨.type "builtin_function_or_method", none, .fields #[.builtin "type.__prepare__", .type "type"], #[]⟩
noncomputable def ho48 : Obj := ⟨.type "dict", none, .dict #[hk P "__module__" 309 (.str (hs "abc") 300), hk P "__qualname__" 311 (.str (hs "ABCMeta") 310), hk P "__firstlineno__" 313 (.int (12) 312), hk P "register" 321 (.ref 59), hk P "__static_attributes__" 322 (.ref 60)] 5, #[]⟩
noncomputable def ho49 : Obj := tuO #[]
noncomputable def ho50 : Obj := ⟨.none, none, .fields #[.int (14) 0, .int (4) 0, .ref 58], #[]⟩
noncomputable def ho51 : Obj := ⟨.type "code", none, .fields #[.str (hs "ABCMeta") 304, .str (hs "ABCMeta") 305, .str (hs "/claim/cut.py") 306, .int (12) 0, .int (0) 0, .int (0) 0, .int (0) 0, .int (0) 0, .ref 49, .bool false, .int (276) 0, .ref 50, .none, .none, .none, .none, .int (307) 0, .int (12) 0, .str (hs "/claim/cut.py") 308], #[]⟩
noncomputable def ho52 : Obj := ⟨.type "frame", none, .plain, #[some (.ref 51), some (.ref 3), some (.ref 48), none, some (.str (hs "abc") 300), none, some (.ref 0)]⟩
noncomputable def ho53 : Obj := tuO #[]
noncomputable def ho54 : Obj := ⟨.none, none, .fields #[], #[]⟩
noncomputable def ho55 : Obj := tuO #[.str (hs "cls") 317, .str (hs "subclass") 318]
noncomputable def ho56 : Obj := tuO #[]
noncomputable def ho57 : Obj := ⟨.none, none, .func ⟨hs "register", hs "ABCMeta.register", hPs (hAt hW [5, 0]), .stmts (hBd (hAt hW [5, 0])), hSc (hAt hW [5, 0]), 0, [], .none, .none, .none, .none, none, .none, .none, 0⟩, #[]⟩
noncomputable def ho58 : Obj := ⟨.type "code", none, .fields #[.str (hs "register") 314, .str (hs "ABCMeta.register") 315, .str (hs "/claim/cut.py") 316, .int (14) 0, .int (2) 0, .int (0) 0, .int (0) 0, .int (3) 0, .ref 53, .bool true, .int (276) 0, .ref 54, .none, .ref 55, .ref 56, .ref 57, .int (319) 0, .int (14) 0, .str (hs "/claim/cut.py") 320], #[]⟩
noncomputable def ho59 : Obj := ⟨.type "function", none, .func ⟨hs "register", hs "ABCMeta.register", hPs (hAt hW [5, 0]), .stmts (hBd (hAt hW [5, 0])), hSc (hAt hW [5, 0]), 3, [], .none, .none, .none, .str (hs "abc") 300, none, .ref 58, .none, 0⟩, #[]⟩
noncomputable def ho60 : Obj := tuO #[]
noncomputable def ho61 : Obj := ⟨.type "dict", none, .dict #[hk P "__module__" 309 (.str (hs "abc") 300), hk P "__firstlineno__" 313 (.int (12) 312), hk P "register" 321 (.ref 59), hk P "__static_attributes__" 322 (.ref 60), hk P "__doc__" 323 (.none)] 2, #[]⟩
noncomputable def ho62 : Obj := ⟨.type "type", none, .cls ⟨hs "ABCMeta", [.type "type"], [.ref 62, .type "type", .type "object"], 61, hs "ABCMeta", true, [], [.ref 95], false, none, false⟩, #[some (.ref 46), none, some (.str (hs "ABCMeta") 302), some (.str (hs "ABCMeta") 310), some (.builtin "type.__new__"), some (.bool true)]⟩
noncomputable def ho63 : Obj := ⟨.type "super", none, .fields #[.ref 62, .ref 62, .ref 62], #[]⟩
noncomputable def ho64 : Obj := ⟨.type "builtin_function_or_method", none, .fields #[.builtin "object.__init_subclass__", .ref 62], #[]⟩
noncomputable def ho65 : Obj := tuO #[.ref 62]
noncomputable def ho66 : Obj := ⟨.type "builtin_function_or_method", none, .fields #[.builtin "type.__prepare__", .type "type"], #[]⟩
noncomputable def ho67 : Obj := ⟨.type "dict", none, .dict #[hk P "__module__" 335 (.str (hs "collections.abc") 326), hk P "__qualname__" 337 (.str (hs "_ABCLike") 336), hk P "__firstlineno__" 339 (.int (17) 338), hk P "__instancecheck__" 348 (.ref 78), hk P "__subclasscheck__" 356 (.ref 85), hk P "register" 364 (.ref 92), hk P "__static_attributes__" 365 (.ref 93)] 7, #[]⟩
noncomputable def ho68 : Obj := tuO #[]
noncomputable def ho69 : Obj := ⟨.none, none, .fields #[.int (19) 0, .int (4) 0, .ref 77, .int (25) 0, .int (4) 0, .ref 84, .int (30) 0, .int (4) 0, .ref 91], #[]⟩
noncomputable def ho70 : Obj := ⟨.type "code", none, .fields #[.str (hs "_ABCLike") 330, .str (hs "_ABCLike") 331, .str (hs "/claim/cut.py") 332, .int (17) 0, .int (0) 0, .int (0) 0, .int (0) 0, .int (0) 0, .ref 68, .bool false, .int (276) 0, .ref 69, .none, .none, .none, .none, .int (333) 0, .int (17) 0, .str (hs "/claim/cut.py") 334], #[]⟩
noncomputable def ho71 : Obj := ⟨.type "frame", none, .plain, #[some (.ref 70), some (.ref 3), some (.ref 67), none, some (.str (hs "collections.abc") 326), none, some (.ref 0)]⟩
noncomputable def ho72 : Obj := tuO #[]
noncomputable def ho73 : Obj := ⟨.none, none, .fields #[], #[]⟩
noncomputable def ho74 : Obj := tuO #[.str (hs "cls") 343, .str (⟨#[105, 110, 115, 116, 97, 110, 99, 101]⟩) 344, .str (hs "C") 345]
noncomputable def ho75 : Obj := tuO #[]
noncomputable def ho76 : Obj := ⟨.none, none, .func ⟨hs "__instancecheck__", hs "_ABCLike.__instancecheck__", hPs (hAt hW [7, 0]), .stmts (hBd (hAt hW [7, 0])), hSc (hAt hW [7, 0]), 0, [], .none, .none, .none, .none, none, .none, .none, 0⟩, #[]⟩
noncomputable def ho77 : Obj := ⟨.type "code", none, .fields #[.str (hs "__instancecheck__") 340, .str (hs "_ABCLike.__instancecheck__") 341, .str (hs "/claim/cut.py") 342, .int (19) 0, .int (2) 0, .int (0) 0, .int (0) 0, .int (3) 0, .ref 72, .bool true, .int (276) 0, .ref 73, .none, .ref 74, .ref 75, .ref 76, .int (346) 0, .int (19) 0, .str (hs "/claim/cut.py") 347], #[]⟩
noncomputable def ho78 : Obj := ⟨.type "function", none, .func ⟨hs "__instancecheck__", hs "_ABCLike.__instancecheck__", hPs (hAt hW [7, 0]), .stmts (hBd (hAt hW [7, 0])), hSc (hAt hW [7, 0]), 3, [], .none, .none, .none, .str (hs "collections.abc") 326, none, .ref 77, .none, 0⟩, #[]⟩
noncomputable def ho79 : Obj := tuO #[]
noncomputable def ho80 : Obj := ⟨.none, none, .fields #[], #[]⟩
noncomputable def ho81 : Obj := tuO #[.str (hs "cls") 352, .str (hs "C") 353]
noncomputable def ho82 : Obj := tuO #[]
noncomputable def ho83 : Obj := ⟨.none, none, .func ⟨hs "__subclasscheck__", hs "_ABCLike.__subclasscheck__", hPs (hAt hW [7, 1]), .stmts (hBd (hAt hW [7, 1])), hSc (hAt hW [7, 1]), 0, [], .none, .none, .none, .none, none, .none, .none, 0⟩, #[]⟩
noncomputable def ho84 : Obj := ⟨.type "code", none, .fields #[.str (hs "__subclasscheck__") 349, .str (hs "_ABCLike.__subclasscheck__") 350, .str (hs "/claim/cut.py") 351, .int (25) 0, .int (2) 0, .int (0) 0, .int (0) 0, .int (3) 0, .ref 79, .bool true, .int (276) 0, .ref 80, .none, .ref 81, .ref 82, .ref 83, .int (354) 0, .int (25) 0, .str (hs "/claim/cut.py") 355], #[]⟩
noncomputable def ho85 : Obj := ⟨.type "function", none, .func ⟨hs "__subclasscheck__", hs "_ABCLike.__subclasscheck__", hPs (hAt hW [7, 1]), .stmts (hBd (hAt hW [7, 1])), hSc (hAt hW [7, 1]), 3, [], .none, .none, .none, .str (hs "collections.abc") 326, none, .ref 84, .none, 0⟩, #[]⟩
noncomputable def ho86 : Obj := tuO #[]
noncomputable def ho87 : Obj := ⟨.none, none, .fields #[], #[]⟩
noncomputable def ho88 : Obj := tuO #[.str (hs "cls") 360, .str (hs "subclass") 361]
noncomputable def ho89 : Obj := tuO #[]
noncomputable def ho90 : Obj := ⟨.none, none, .func ⟨hs "register", hs "_ABCLike.register", hPs (hAt hW [7, 2]), .stmts (hBd (hAt hW [7, 2])), hSc (hAt hW [7, 2]), 0, [], .none, .none, .none, .none, none, .none, .none, 0⟩, #[]⟩
noncomputable def ho91 : Obj := ⟨.type "code", none, .fields #[.str (hs "register") 357, .str (hs "_ABCLike.register") 358, .str (hs "/claim/cut.py") 359, .int (30) 0, .int (2) 0, .int (0) 0, .int (0) 0, .int (3) 0, .ref 86, .bool true, .int (276) 0, .ref 87, .none, .ref 88, .ref 89, .ref 90, .int (362) 0, .int (30) 0, .str (hs "/claim/cut.py") 363], #[]⟩
noncomputable def ho92 : Obj := ⟨.type "function", none, .func ⟨hs "register", hs "_ABCLike.register", hPs (hAt hW [7, 2]), .stmts (hBd (hAt hW [7, 2])), hSc (hAt hW [7, 2]), 3, [], .none, .none, .none, .str (hs "collections.abc") 326, none, .ref 91, .none, 0⟩, #[]⟩
noncomputable def ho93 : Obj := tuO #[]
noncomputable def ho94 : Obj := ⟨.type "dict", none, .dict #[hk P "__module__" 335 (.str (hs "collections.abc") 326), hk P "__firstlineno__" 339 (.int (17) 338), hk P "__instancecheck__" 348 (.ref 78), hk P "__subclasscheck__" 356 (.ref 85), hk P "register" 364 (.ref 92), hk P "__static_attributes__" 365 (.ref 93), hk P "__doc__" 366 (.none)] 2, #[]⟩
noncomputable def ho95 : Obj := ⟨.type "type", none, .cls ⟨hs "_ABCLike", [.ref 62], [.ref 95, .ref 62, .type "type", .type "object"], 94, hs "_ABCLike", true, [], [], false, none, false⟩, #[some (.ref 65), none, some (.str (hs "_ABCLike") 328), some (.str (hs "_ABCLike") 336), some (.builtin "type.__new__"), some (.bool true)]⟩
noncomputable def ho96 : Obj := ⟨.type "super", none, .fields #[.ref 95, .ref 95, .ref 95], #[]⟩
noncomputable def ho97 : Obj := ⟨.type "builtin_function_or_method", none, .fields #[.builtin "object.__init_subclass__", .ref 95], #[]⟩
noncomputable def ho98 : Obj := tuO #[]
noncomputable def ho99 : Obj := ⟨.none, none, .fields #[], #[]⟩
noncomputable def ho100 : Obj := tuO #[.str (hs "C") 372]
noncomputable def ho101 : Obj := tuO #[]
noncomputable def ho102 : Obj := ⟨.none, none, .func ⟨hs "_abc_plain_meta", hs "_abc_plain_meta", hPs (hAt hW [8]), .stmts (hBd (hAt hW [8])), hSc (hAt hW [8]), 0, [], .none, .none, .none, .none, none, .none, .none, 0⟩, #[]⟩
noncomputable def ho103 : Obj := ⟨.type "code", none, .fields #[.str (hs "_abc_plain_meta") 369, .str (hs "_abc_plain_meta") 370, .str (hs "/claim/cut.py") 371, .int (32) 0, .int (1) 0, .int (0) 0, .int (0) 0, .int (3) 0, .ref 98, .bool true, .int (276) 0, .ref 99, .none, .ref 100, .ref 101, .ref 102, .int (373) 0, .int (32) 0, .str (hs "/claim/cut.py") 374], #[]⟩
noncomputable def ho104 : Obj := ⟨.type "function", none, .func ⟨hs "_abc_plain_meta", hs "_abc_plain_meta", hPs (hAt hW [8]), .stmts (hBd (hAt hW [8])), hSc (hAt hW [8]), 3, [], .none, .none, .none, .str (hs "collections.abc") 326, none, .ref 103, .none, 0⟩, #[]⟩
noncomputable def ho105 : Obj := tuO #[]
noncomputable def ho106 : Obj := ⟨.none, none, .fields #[], #[]⟩
noncomputable def ho107 : Obj := tuO #[.str (hs "path") 381, .str (hs "kind") 382, .str (hs "hook") 383, .str (hs "given") 384]
noncomputable def ho108 : Obj := tuO #[]
noncomputable def ho109 : Obj := ⟨.none, none, .func ⟨hs "fspath", hs "fspath", hPs (hAt hW [10]), .stmts (hBd (hAt hW [10])), hSc (hAt hW [10]), 0, [], .none, .none, .none, .none, none, .none, .none, 0⟩, #[]⟩
noncomputable def ho110 : Obj := ⟨.type "code", none, .fields #[.str (hs "fspath") 378, .str (hs "fspath") 379, .str (hs "/claim/cut.py") 380, .int (36) 0, .int (1) 0, .int (0) 0, .int (0) 0, .int (3) 0, .ref 105, .bool true, .int (276) 0, .ref 106, .none, .ref 107, .ref 108, .ref 109, .int (385) 0, .int (36) 0, .str (hs "/claim/cut.py") 386], #[]⟩
noncomputable def ho111 : Obj := ⟨.type "function", none, .func ⟨hs "fspath", hs "fspath", hPs (hAt hW [10]), .stmts (hBd (hAt hW [10])), hSc (hAt hW [10]), 3, [], .none, .none, .none, .str (hs "os") 376, none, .ref 110, .none, 0⟩, #[]⟩
noncomputable def ho112 : Obj := tuO #[]
noncomputable def ho113 : Obj := ⟨.none, none, .fields #[], #[]⟩
noncomputable def ho114 : Obj := tuO #[.str (hs "m") 393, .str (hs "s1") 394, .str (hs "s2") 395, .str (hs "i") 396, .str (hs "c") 397]
noncomputable def ho115 : Obj := tuO #[]
noncomputable def ho116 : Obj := ⟨.none, none, .func ⟨hs "commonprefix", hs "commonprefix", hPs (hAt hW [12]), .stmts (hBd (hAt hW [12])), hSc (hAt hW [12]), 0, [], .none, .none, .none, .none, none, .none, .none, 0⟩, #[]⟩
noncomputable def ho117 : Obj := ⟨.type "code", none, .fields #[.str (hs "commonprefix") 390, .str (hs "commonprefix") 391, .str (hs "/claim/cut.py") 392, .int (53) 0, .int (1) 0, .int (0) 0, .int (0) 0, .int (3) 0, .ref 112, .bool true, .int (276) 0, .ref 113, .none, .ref 114, .ref 115, .ref 116, .int (398) 0, .int (53) 0, .str (hs "/claim/cut.py") 399], #[]⟩
noncomputable def ho118 : Obj := ⟨.type "function", none, .func ⟨hs "commonprefix", hs "commonprefix", hPs (hAt hW [12]), .stmts (hBd (hAt hW [12])), hSc (hAt hW [12]), 3, [], .none, .none, .none, .str (hs "cpy313.genericpath") 388, none, .ref 117, .none, 0⟩, #[]⟩
noncomputable def ho119 : Obj := tuO #[]
noncomputable def ho120 : Obj := ⟨.none, none, .fields #[], #[]⟩
noncomputable def ho121 : Obj := tuO #[.str (hs "funcname") 404, .str (hs "args") 405, .str (hs "hasstr") 406, .str (hs "hasbytes") 407, .str (hs "s") 408]
noncomputable def ho122 : Obj := tuO #[]
noncomputable def ho123 : Obj := ⟨.none, none, .func ⟨hs "_check_arg_types", hs "_check_arg_types", hPs (hAt hW [13]), .stmts (hBd (hAt hW [13])), hSc (hAt hW [13]), 0, [], .none, .none, .none, .none, none, .none, .none, 0⟩, #[]⟩
noncomputable def ho124 : Obj := ⟨.type "code", none, .fields #[.str (hs "_check_arg_types") 401, .str (hs "_check_arg_types") 402, .str (hs "/claim/cut.py") 403, .int (64) 0, .int (1) 0, .int (0) 0, .int (0) 0, .int (7) 0, .ref 119, .bool true, .int (276) 0, .ref 120, .none, .ref 121, .ref 122, .ref 123, .int (409) 0, .int (64) 0, .str (hs "/claim/cut.py") 410], #[]⟩
noncomputable def ho125 : Obj := ⟨.type "function", none, .func ⟨hs "_check_arg_types", hs "_check_arg_types", hPs (hAt hW [13]), .stmts (hBd (hAt hW [13])), hSc (hAt hW [13]), 3, [], .none, .none, .none, .str (hs "cpy313.genericpath") 388, none, .ref 124, .none, 0⟩, #[]⟩
noncomputable def ho126 : Obj := ⟨.type "list", none, .seq #[.int (14) 415, .int (14) 416, .int (4) 417, .int (1) 418, .int (1) 419, .int (9) 420, .int (0) 421, .int (64) 422, .int (0) 423, .int (1342177280) 424, .int (0) 425, .int (0) 426, .int (0) 427, .int (0) 428, .int (0) 429, .int (17) 430, .int (0) 431, .int (13) 432, .int (11) 433, .int (9) 434, .int (0) 435, .int (64) 436, .int (0) 437, .int (1342177280) 438, .int (0) 439, .int (0) 440, .int (0) 441, .int (0) 442, .int (0) 443, .int (17) 444, .int (1) 445, .int (1) 446] 0, #[]⟩
noncomputable def ho127 : Obj := ⟨.type "dict", none, .dict #[] 0, #[]⟩
noncomputable def ho128 : Obj := tuO #[.none, .none]
noncomputable def ho129 : Obj := tuO #[.int (14) 0, .int (14) 0, .int (4) 0, .int (1) 0, .int (1) 0, .int (9) 0, .int (0) 0, .int (64) 0, .int (0) 0, .int (1342177280) 0, .int (0) 0, .int (0) 0, .int (0) 0, .int (0) 0, .int (0) 0, .int (17) 0, .int (0) 0, .int (13) 0, .int (11) 0, .int (9) 0, .int (0) 0, .int (64) 0, .int (0) 0, .int (1342177280) 0, .int (0) 0, .int (0) 0, .int (0) 0, .int (0) 0, .int (0) 0, .int (17) 0, .int (1) 0, .int (1) 0]
noncomputable def ho130 : Obj := ⟨.type "re.Pattern", none, .fields #[.str (hs "([&~|])") 413, .int (32) 448, .int (1) 0, .none, .none, .ref 129, .int (0) 0], #[]⟩
noncomputable def ho131 : Obj := ⟨.type "bytes_iterator", none, .fields #[.none, .int (24) 0], #[]⟩
noncomputable def ho132 : Obj := ⟨.type "dict", none, .dict #[⟨40, .int (40) 453, .str (hs "\\(") 457⟩, ⟨41, .int (41) 459, .str (hs "\\)") 463⟩, ⟨91, .int (91) 465, .str (hs "\\[") 469⟩, ⟨93, .int (93) 471, .str (hs "\\]") 475⟩, ⟨123, .int (123) 477, .str (hs "\\{") 481⟩, ⟨125, .int (125) 483, .str (hs "\\}") 487⟩, ⟨63, .int (63) 489, .str (hs "\\?") 493⟩, ⟨42, .int (42) 495, .str (hs "\\*") 499⟩, ⟨43, .int (43) 501, .str (hs "\\+") 505⟩, ⟨45, .int (45) 507, .str (hs "\\-") 511⟩, ⟨124, .int (124) 513, .str (hs "\\|") 517⟩, ⟨94, .int (94) 519, .str (hs "\\^") 523⟩, ⟨36, .int (36) 525, .str (hs "\\$") 529⟩, ⟨92, .int (92) 531, .str (hs "\\\\") 535⟩, ⟨46, .int (46) 537, .str (hs "\\.") 541⟩, ⟨38, .int (38) 543, .str (hs "\\&") 547⟩, ⟨126, .int (126) 549, .str (hs "\\~") 553⟩, ⟨35, .int (35) 555, .str (hs "\\#") 559⟩, ⟨32, .int (32) 561, .str (hs "\\ ") 565⟩, ⟨9, .int (9) 567, .str ((⟨#[92, 9]⟩ : PySem.Str)) 571⟩, ⟨10, .int (10) 573, .str ((⟨#[92, 10]⟩ : PySem.Str)) 577⟩, ⟨13, .int (13) 579, .str ((⟨#[92, 13]⟩ : PySem.Str)) 583⟩, ⟨11, .int (11) 585, .str ((⟨#[92, 11]⟩ : PySem.Str)) 589⟩, ⟨12, .int (12) 591, .str ((⟨#[92, 12]⟩ : PySem.Str)) 595⟩] 24, #[]⟩
noncomputable def ho133 : Obj := ⟨.type "dict", none, .dict #[] 2, #[]⟩
noncomputable def ho134 : Obj := tuO #[]
noncomputable def ho135 : Obj := ⟨.type "StopIteration", none, .fields #[.ref 134, .none, .none, .none, .bool false, .none], #[]⟩
noncomputable def ho136 : Obj := tuO #[]
noncomputable def ho137 : Obj := ⟨.none, none, .fields #[], #[]⟩
noncomputable def ho138 : Obj := tuO #[.str (hs "pattern") 601]
noncomputable def ho139 : Obj := tuO #[]
noncomputable def ho140 : Obj := ⟨.none, none, .func ⟨hs "escape", hs "escape", hPs (hAt hW [17]), .stmts (hBd (hAt hW [17])), hSc (hAt hW [17]), 0, [], .none, .none, .none, .none, none, .none, .none, 0⟩, #[]⟩
noncomputable def ho141 : Obj := ⟨.type "code", none, .fields #[.str (hs "escape") 598, .str (hs "escape") 599, .str (hs "/claim/cut.py") 600, .int (78) 0, .int (1) 0, .int (0) 0, .int (0) 0, .int (3) 0, .ref 136, .bool true, .int (276) 0, .ref 137, .none, .ref 138, .ref 139, .ref 140, .int (602) 0, .int (78) 0, .str (hs "/claim/cut.py") 603], #[]⟩
noncomputable def ho142 : Obj := ⟨.type "function", none, .func ⟨hs "escape", hs "escape", hPs (hAt hW [17]), .stmts (hBd (hAt hW [17])), hSc (hAt hW [17]), 3, [], .none, .none, .none, .str (hs "re") 450, none, .ref 141, .none, 0⟩, #[]⟩
noncomputable def ho143 : Obj := tuO #[]
noncomputable def ho144 : Obj := ⟨.none, none, .fields #[], #[]⟩
noncomputable def ho145 : Obj := tuO #[.str (hs "pat") 610, .str (hs "STAR") 611, .str (hs "QUESTION_MARK") 612, .str (hs "res") 613, .str (hs "add") 614, .str (hs "i") 615, .str (hs "n") 616, .str (hs "c") 617, .str (hs "j") 618, .str (hs "stuff") 619, .str (hs "chunks") 620, .str (hs "k") 621, .str (hs "chunk") 622]
noncomputable def ho146 : Obj := tuO #[]
noncomputable def ho147 : Obj := ⟨.none, none, .func ⟨hs "_translate", hs "_translate", hPs (hAt hW [19]), .stmts (hBd (hAt hW [19])), hSc (hAt hW [19]), 0, [], .none, .none, .none, .none, none, .none, .none, 0⟩, #[]⟩
noncomputable def ho148 : Obj := ⟨.type "code", none, .fields #[.str (hs "_translate") 607, .str (hs "_translate") 608, .str (hs "/claim/cut.py") 609, .int (85) 0, .int (3) 0, .int (0) 0, .int (0) 0, .int (3) 0, .ref 143, .bool true, .int (276) 0, .ref 144, .none, .ref 145, .ref 146, .ref 147, .int (623) 0, .int (85) 0, .str (hs "/claim/cut.py") 624], #[]⟩
noncomputable def ho149 : Obj := ⟨.type "function", none, .func ⟨hs "_translate", hs "_translate", hPs (hAt hW [19]), .stmts (hBd (hAt hW [19])), hSc (hAt hW [19]), 3, [], .none, .none, .none, .str (hs "cpy313.fnmatch") 605, none, .ref 148, .none, 0⟩, #[]⟩
noncomputable def ho150 : Obj := tuO #[]
noncomputable def ho151 : Obj := ⟨.none, none, .fields #[], #[]⟩
noncomputable def ho152 : Obj := tuO #[.str (hs "path") 631]
noncomputable def ho153 : Obj := tuO #[]
noncomputable def ho154 : Obj := ⟨.none, none, .func ⟨hs "_get_sep", hs "_get_sep", hPs (hAt hW [21]), .stmts (hBd (hAt hW [21])), hSc (hAt hW [21]), 0, [], .none, .none, .none, .none, none, .none, .none, 0⟩, #[]⟩
noncomputable def ho155 : Obj := ⟨.type "code", none, .fields #[.str (hs "_get_sep") 628, .str (hs "_get_sep") 629, .str (hs "/claim/cut.py") 630, .int (148) 0, .int (1) 0, .int (0) 0, .int (0) 0, .int (3) 0, .ref 150, .bool true, .int (276) 0, .ref 151, .none, .ref 152, .ref 153, .ref 154, .int (632) 0, .int (148) 0, .str (hs "/claim/cut.py") 633], #[]⟩
noncomputable def ho156 : Obj := ⟨.type "function", none, .func ⟨hs "_get_sep", hs "_get_sep", hPs (hAt hW [21]), .stmts (hBd (hAt hW [21])), hSc (hAt hW [21]), 3, [], .none, .none, .none, .str (hs "cpy313.posixpath") 626, none, .ref 155, .none, 0⟩, #[]⟩
noncomputable def ho157 : Obj := tuO #[]
noncomputable def ho158 : Obj := ⟨.none, none, .fields #[], #[]⟩
noncomputable def ho159 : Obj := tuO #[.str (hs "p") 638, .str (hs "sep") 639, .str (hs "i") 640, .str (hs "head") 641]
noncomputable def ho160 : Obj := tuO #[]
noncomputable def ho161 : Obj := ⟨.none, none, .func ⟨hs "dirname", hs "dirname", hPs (hAt hW [22]), .stmts (hBd (hAt hW [22])), hSc (hAt hW [22]), 0, [], .none, .none, .none, .none, none, .none, .none, 0⟩, #[]⟩
noncomputable def ho162 : Obj := ⟨.type "code", none, .fields #[.str (hs "dirname") 635, .str (hs "dirname") 636, .str (hs "/claim/cut.py") 637, .int (153) 0, .int (1) 0, .int (0) 0, .int (0) 0, .int (3) 0, .ref 157, .bool true, .int (276) 0, .ref 158, .none, .ref 159, .ref 160, .ref 161, .int (642) 0, .int (153) 0, .str (hs "/claim/cut.py") 643], #[]⟩
noncomputable def ho163 : Obj := ⟨.type "function", none, .func ⟨hs "dirname", hs "dirname", hPs (hAt hW [22]), .stmts (hBd (hAt hW [22])), hSc (hAt hW [22]), 3, [], .none, .none, .none, .str (hs "cpy313.posixpath") 626, none, .ref 162, .none, 0⟩, #[]⟩
noncomputable def ho164 : Obj := tuO #[]
noncomputable def ho165 : Obj := ⟨.none, none, .fields #[], #[]⟩
noncomputable def ho166 : Obj := ⟨.none, none, .func ⟨hs "commonpath", hs "commonpath", hPs (hAt hW [23]), .stmts (hBd (hAt hW [23])), hSc (hAt hW [23]), 0, [], .none, .none, .none, .none, none, .none, .none, 0⟩, #[]⟩
noncomputable def ho167 : Obj := ⟨.type "code", none, .fields #[.str (hs "commonpath") 645, .str (hs "commonpath") 646, .str (hs "/claim/cut.py") 647, .int (161) 0, .int (1) 0, .int (0) 0, .int (0) 0, .int (3) 0, .ref 164, .bool true, .int (276) 0, .ref 165, .none, .none, .none, .ref 166, .int (648) 0, .int (161) 0, .str (hs "/claim/cut.py") 649], #[]⟩
noncomputable def ho168 : Obj := ⟨.type "function", none, .func ⟨hs "commonpath", hs "commonpath", hPs (hAt hW [23]), .stmts (hBd (hAt hW [23])), hSc (hAt hW [23]), 3, [], .none, .none, .none, .str (hs "cpy313.posixpath") 626, none, .ref 167, .none, 0⟩, #[]⟩
noncomputable def ho169 : Obj := tuO #[]
noncomputable def ho170 : Obj := ⟨.none, none, .fields #[], #[]⟩
noncomputable def ho171 : Obj := tuO #[.str (hs "part") 656, .str (hs "sign") 657, .str (hs "body") 658, .str (hs "barred") 659, .str (hs "k") 660, .str (hs "found") 661, .str (hs "low") 662, .str (hs "high") 663]
noncomputable def ho172 : Obj := tuO #[]
noncomputable def ho173 : Obj := ⟨.none, none, .func ⟨hs "_law_one", hs "_law_one", hPs (hAt hW [25]), .stmts (hBd (hAt hW [25])), hSc (hAt hW [25]), 0, [], .none, .none, .none, .none, none, .none, .none, 0⟩, #[]⟩
noncomputable def ho174 : Obj := ⟨.type "code", none, .fields #[.str (hs "_law_one") 653, .str (hs "_law_one") 654, .str (hs "/claim/cut.py") 655, .int (191) 0, .int (2) 0, .int (0) 0, .int (0) 0, .int (3) 0, .ref 169, .bool true, .int (276) 0, .ref 170, .none, .ref 171, .ref 172, .ref 173, .int (664) 0, .int (191) 0, .str (hs "/claim/cut.py") 665], #[]⟩
noncomputable def ho175 : Obj := ⟨.type "function", none, .func ⟨hs "_law_one", hs "_law_one", hPs (hAt hW [25]), .stmts (hBd (hAt hW [25])), hSc (hAt hW [25]), 3, [], .none, .none, .none, .str (hs "law_dn0069_04") 651, none, .ref 174, .none, 0⟩, #[]⟩
noncomputable def ho176 : Obj := tuO #[]
noncomputable def ho177 : Obj := ⟨.none, none, .fields #[], #[]⟩
noncomputable def ho178 : Obj := ⟨.none, none, .func ⟨hs "_law_takes", hs "_law_takes", hPs (hAt hW [26]), .stmts (hBd (hAt hW [26])), hSc (hAt hW [26]), 0, [], .none, .none, .none, .none, none, .none, .none, 0⟩, #[]⟩
noncomputable def ho179 : Obj := ⟨.type "code", none, .fields #[.str (hs "_law_takes") 667, .str (hs "_law_takes") 668, .str (hs "/claim/cut.py") 669, .int (215) 0, .int (3) 0, .int (0) 0, .int (0) 0, .int (3) 0, .ref 176, .bool true, .int (276) 0, .ref 177, .none, .none, .none, .ref 178, .int (670) 0, .int (215) 0, .str (hs "/claim/cut.py") 671], #[]⟩
noncomputable def ho180 : Obj := ⟨.type "function", none, .func ⟨hs "_law_takes", hs "_law_takes", hPs (hAt hW [26]), .stmts (hBd (hAt hW [26])), hSc (hAt hW [26]), 3, [], .none, .none, .none, .str (hs "law_dn0069_04") 651, none, .ref 179, .none, 0⟩, #[]⟩
noncomputable def ho181 : Obj := tuO #[]
noncomputable def ho182 : Obj := ⟨.none, none, .fields #[], #[]⟩
noncomputable def ho183 : Obj := ⟨.none, none, .func ⟨hs "_law_quoted", hs "_law_quoted", hPs (hAt hW [27]), .stmts (hBd (hAt hW [27])), hSc (hAt hW [27]), 0, [], .none, .none, .none, .none, none, .none, .none, 0⟩, #[]⟩
noncomputable def ho184 : Obj := ⟨.type "code", none, .fields #[.str (hs "_law_quoted") 673, .str (hs "_law_quoted") 674, .str (hs "/claim/cut.py") 675, .int (223) 0, .int (1) 0, .int (0) 0, .int (0) 0, .int (3) 0, .ref 181, .bool true, .int (276) 0, .ref 182, .none, .none, .none, .ref 183, .int (676) 0, .int (223) 0, .str (hs "/claim/cut.py") 677], #[]⟩
noncomputable def ho185 : Obj := ⟨.type "function", none, .func ⟨hs "_law_quoted", hs "_law_quoted", hPs (hAt hW [27]), .stmts (hBd (hAt hW [27])), hSc (hAt hW [27]), 3, [], .none, .none, .none, .str (hs "law_dn0069_04") 651, none, .ref 184, .none, 0⟩, #[]⟩
noncomputable def ho186 : Obj := tuO #[]
noncomputable def ho187 : Obj := ⟨.none, none, .fields #[], #[]⟩
noncomputable def ho188 : Obj := tuO #[.str (hs "number") 682, .str (hs "out") 683, .str (hs "left") 684, .str (hs "sign") 685]
noncomputable def ho189 : Obj := tuO #[]
noncomputable def ho190 : Obj := ⟨.none, none, .func ⟨hs "_law_drawn", hs "_law_drawn", hPs (hAt hW [28]), .stmts (hBd (hAt hW [28])), hSc (hAt hW [28]), 0, [], .none, .none, .none, .none, none, .none, .none, 0⟩, #[]⟩
noncomputable def ho191 : Obj := ⟨.type "code", none, .fields #[.str (hs "_law_drawn") 679, .str (hs "_law_drawn") 680, .str (hs "/claim/cut.py") 681, .int (225) 0, .int (1) 0, .int (0) 0, .int (0) 0, .int (3) 0, .ref 186, .bool true, .int (276) 0, .ref 187, .none, .ref 188, .ref 189, .ref 190, .int (686) 0, .int (225) 0, .str (hs "/claim/cut.py") 687], #[]⟩
noncomputable def ho192 : Obj := ⟨.type "function", none, .func ⟨hs "_law_drawn", hs "_law_drawn", hPs (hAt hW [28]), .stmts (hBd (hAt hW [28])), hSc (hAt hW [28]), 3, [], .none, .none, .none, .str (hs "law_dn0069_04") 651, none, .ref 191, .none, 0⟩, #[]⟩
noncomputable def ho193 : Obj := tuO #[]
noncomputable def ho194 : Obj := ⟨.none, none, .fields #[], #[]⟩
noncomputable def ho195 : Obj := tuO #[.str (hs "one") 692, .str (hs "other") 693, .str (hs "count") 694]
noncomputable def ho196 : Obj := tuO #[]
noncomputable def ho197 : Obj := ⟨.none, none, .func ⟨hs "_law_alike", hs "_law_alike", hPs (hAt hW [29]), .stmts (hBd (hAt hW [29])), hSc (hAt hW [29]), 0, [], .none, .none, .none, .none, none, .none, .none, 0⟩, #[]⟩
noncomputable def ho198 : Obj := ⟨.type "code", none, .fields #[.str (hs "_law_alike") 689, .str (hs "_law_alike") 690, .str (hs "/claim/cut.py") 691, .int (234) 0, .int (2) 0, .int (0) 0, .int (0) 0, .int (3) 0, .ref 193, .bool true, .int (276) 0, .ref 194, .none, .ref 195, .ref 196, .ref 197, .int (695) 0, .int (234) 0, .str (hs "/claim/cut.py") 696], #[]⟩
noncomputable def ho199 : Obj := ⟨.type "function", none, .func ⟨hs "_law_alike", hs "_law_alike", hPs (hAt hW [29]), .stmts (hBd (hAt hW [29])), hSc (hAt hW [29]), 3, [], .none, .none, .none, .str (hs "law_dn0069_04") 651, none, .ref 198, .none, 0⟩, #[]⟩
noncomputable def ho200 : Obj := tuO #[]
noncomputable def ho201 : Obj := ⟨.none, none, .fields #[], #[]⟩
noncomputable def ho202 : Obj := ⟨.none, none, .func ⟨hs "law", hs "law", hPs (hAt hW [30]), .stmts (hBd (hAt hW [30])), hSc (hAt hW [30]), 0, [], .none, .none, .none, .none, none, .none, .none, 0⟩, #[]⟩
noncomputable def ho203 : Obj := ⟨.type "code", none, .fields #[.str (hs "law") 698, .str (hs "law") 699, .str (hs "/claim/cut.py") 700, .int (239) 0, .int (1) 0, .int (0) 0, .int (0) 0, .int (3) 0, .ref 200, .bool true, .int (276) 0, .ref 201, .none, .none, .none, .ref 202, .int (701) 0, .int (239) 0, .str (hs "/claim/cut.py") 702], #[]⟩
noncomputable def ho204 : Obj := ⟨.type "function", none, .func ⟨hs "law", hs "law", hPs (hAt hW [30]), .stmts (hBd (hAt hW [30])), hSc (hAt hW [30]), 3, [], .none, .none, .none, .str (hs "law_dn0069_04") 651, none, .ref 203, .none, 0⟩, #[]⟩
noncomputable def hp30 : Heap := ⟨Array.mk [boot_o_0 P, ho1 P, ho2 P, ho3xxx P, boot_o_4 P, boot_o_5 P, boot_o_6 P, boot_o_7 P, boot_o_8 P, boot_o_9 P, boot_o_10 P, ho11 P, ho12, ho13 P, ho14, ho15, ho16, ho17, ho18, ho19, ho20 P, ho21 P, ho22, ho23, ho24, ho25, ho26, ho27, ho28, ho29xx, ho30, ho31, ho32, ho33, ho34, ho35, ho36, ho37, ho38, ho39, ho40, ho41, ho42, ho43, ho44, ho45, ho46, ho47, ho48 P, ho49, ho50, ho51, ho52, ho53, ho54, ho55, ho56, ho57, ho58, ho59, ho60, ho61 P, ho62, ho63, ho64, ho65, ho66, ho67 P, ho68, ho69, ho70, ho71, ho72, ho73, ho74, ho75, ho76, ho77, ho78, ho79, ho80, ho81, ho82, ho83, ho84, ho85, ho86, ho87, ho88, ho89, ho90, ho91, ho92, ho93, ho94 P, ho95, ho96, ho97, ho98, ho99, ho100, ho101, ho102, ho103, ho104, ho105, ho106, ho107, ho108, ho109, ho110, ho111, ho112, ho113, ho114, ho115, ho116, ho117, ho118, ho119, ho120, ho121, ho122, ho123, ho124, ho125, ho126, ho127, ho128, ho129, ho130, ho131, ho132, ho133, ho134, ho135, ho136, ho137, ho138, ho139, ho140, ho141, ho142, ho143, ho144, ho145, ho146, ho147, ho148, ho149, ho150, ho151, ho152, ho153, ho154, ho155, ho156, ho157, ho158, ho159, ho160, ho161, ho162, ho163, ho164, ho165, ho166, ho167, ho168, ho169, ho170, ho171, ho172, ho173, ho174, ho175, ho176, ho177, ho178, ho179, ho180, ho181, ho182, ho183, ho184, ho185, ho186, ho187, ho188, ho189, ho190, ho191, ho192, ho193, ho194, ho195, ho196, ho197, ho198, ho199, ho200, ho201, ho202, ho203, ho204], { }⟩
noncomputable def zk : Frag := [(2, ho2 P), (3, ho3xxx P), (110, ho110), (111, ho111), (117, ho117), (118, ho118), (129, ho129), (130, ho130), (132, ho132), (141, ho141), (142, ho142), (144, ho144), (148, ho148), (149, ho149), (155, ho155), (156, ho156), (162, ho162), (163, ho163), (167, ho167), (168, ho168), (174, ho174), (175, ho175), (179, ho179), (180, ho180), (184, ho184), (185, ho185), (191, ho191), (192, ho192), (198, ho198), (199, ho199), (203, ho203), (204, ho204)]
noncomputable abbrev zas : List Addr := [2, 3, 110, 111, 117, 118, 129, 130, 132, 141, 142, 144, 148, 149, 155, 156, 162, 163, 167, 168, 174, 175, 179, 180, 184, 185, 191, 192, 198, 199, 203, 204]
theorem zkeys (P : Params) : zas = (zk P).map (·.1) := rfl
noncomputable abbrev hPr : Program := PySem.Challenge.rw_dn0069_04.row.prog
noncomputable abbrev hB : List Stmt := behindTheImports hPr
noncomputable def hEnv : Env := { scope := hPr.main.scope, locals := mainNs, globals := mainNs, cells := [], code := PySem.Value.ref 30, frame := some 31 }
noncomputable abbrev hC : Code := .body hB hEnv
theorem hpre (w : World) (os : OsState) : topGo treeTable hPr w 28 (some (PySem.Value.ref 6)) 12 (⟨hp0 (w).params, Array.mk [], { }, 276, os⟩ : Shared) (topStub hPr) = some ((⟨hp_pre (w).params, Array.mk [], { }, 282, os⟩ : Shared), ⟨denote treeTable hC, hC, { line := 0, col := 0, endLine := 0, endCol := 0 }, [topFrame ({ line := 0, col := 0, endLine := 0, endCol := 0 } : Pos)]⟩) := by kernel_rfl
theorem hblock (w : World) (os : OsState) : segRun treeTable hPr w 28 (some (PySem.Value.ref 6)) 1 (0 + 1) (⟨hp_pre (w).params, Array.mk [], { }, 282, os⟩ : Shared) (blockOf hB hEnv hC { line := 0, col := 0, endLine := 0, endCol := 0 } [topFrame ({ line := 0, col := 0, endLine := 0, endCol := 0 } : Pos)]) = some (.next, (⟨hp_pre (w).params, Array.mk [], { }, 282, os⟩ : Shared), hC, { line := 0, col := 0, endLine := 0, endCol := 0 }) := by kernel_rfl
theorem hseg3 (w : World) : ∀ os : OsState, segRun treeTable hPr (w) 28 (some (PySem.Value.ref 6)) 1 (69 + 1) (⟨hp_pre (w).params, Array.mk [], { }, 282, os⟩ : Shared) (piecesOf ((hB.drop 0).take 3) hEnv hC { line := 0, col := 0, endLine := 0, endCol := 0 } [topFrame ({ line := 0, col := 0, endLine := 0, endCol := 0 } : Pos)]) = some (.next, (⟨hp3 (w).params, Array.mk [], { }, 300, os⟩ : Shared), hC, { line := 6, col := 0, endLine := 10, endCol := 12 }) := by
  intro os; kernel_rfl
theorem hseg4 (w : World) : ∀ os : OsState, segRun treeTable hPr (w) 28 (some (PySem.Value.ref 6)) 1 (9 + 1) (⟨hp3 (w).params, Array.mk [], { }, 300, os⟩ : Shared) (piecesOf ((hB.drop 3).take 1) hEnv hC { line := 6, col := 0, endLine := 10, endCol := 12 } [topFrame ({ line := 0, col := 0, endLine := 0, endCol := 0 } : Pos)]) = some (.next, (⟨hp4 (w).params, Array.mk [], { }, 302, os⟩ : Shared), hC, { line := 11, col := 0, endLine := 11, endCol := 8 }) := by
  intro os; kernel_rfl
theorem rows2 (r0 r1 : String) {P : World → Prop} (h00 : ∀ w : World, P ((w.withFollow r1 false).withFollow r0 false)) (h01 : ∀ w : World, P ((w.withFollow r1 true).withFollow r0 false)) (h10 : ∀ w : World, P ((w.withFollow r1 false).withFollow r0 true)) (h11 : ∀ w : World, P ((w.withFollow r1 true).withFollow r0 true)) : ∀ w, P w := (fun w => byRow2 r0 (P := fun w => P w) (fun w => byRow2 r1 (P := fun w => P (w.withFollow r0 false)) h00 h01 w) (fun w => byRow2 r1 (P := fun w => P (w.withFollow r0 true)) h10 h11 w) w)
noncomputable abbrev hS30 (w : World) : Prop := ∀ os : OsState, segRun treeTable hPr (w) 28 (some (PySem.Value.ref 6)) 1 (2375 + 1) (⟨hp4 (w).params, Array.mk [], { }, 302, os⟩ : Shared) (piecesOf ((hB.drop 4).take 26) hEnv hC { line := 11, col := 0, endLine := 11, endCol := 8 } [topFrame ({ line := 0, col := 0, endLine := 0, endCol := 0 } : Pos)]) = some (.next, (⟨hp30 (w).params, Array.mk [], { }, 704, os⟩ : Shared), hC, { line := 239, col := 0, endLine := 278, endCol := 15 })
theorem zj4 (w : World) : hS30 (World.withFollow (World.withFollow w "special-get-raises" false) "comprehension-iter-twice" false) := by
  intro os; kernel_rfl
theorem zj3 (w : World) : hS30 (World.withFollow (World.withFollow w "special-get-raises" true) "comprehension-iter-twice" false) := by
  intro os; kernel_rfl
theorem zj2 (w : World) : hS30 (World.withFollow (World.withFollow w "special-get-raises" false) "comprehension-iter-twice" true) := by
  intro os; kernel_rfl
theorem zj1 (w : World) : hS30 (World.withFollow (World.withFollow w "special-get-raises" true) "comprehension-iter-twice" true) := by
  intro os; kernel_rfl
theorem hseg30 (w : World) : ∀ os : OsState, segRun treeTable hPr (w) 28 (some (PySem.Value.ref 6)) 1 (2375 + 1) (⟨hp4 (w).params, Array.mk [], { }, 302, os⟩ : Shared) (piecesOf ((hB.drop 4).take 26) hEnv hC { line := 11, col := 0, endLine := 11, endCol := 8 } [topFrame ({ line := 0, col := 0, endLine := 0, endCol := 0 } : Pos)]) = some (.next, (⟨hp30 (w).params, Array.mk [], { }, 704, os⟩ : Shared), hC, { line := 239, col := 0, endLine := 278, endCol := 15 }) := rows2 "comprehension-iter-twice" "special-get-raises" (P := hS30) zj4 zj3 zj2 zj1 w
theorem hfin (w : World) (os : OsState) : topRun treeTable hPr w 28 (some (PySem.Value.ref 6)) (1 + 1) (⟨hp30 (w).params, Array.mk [], { }, 704, os⟩ : Shared) (restOf [] hEnv hC { line := 239, col := 0, endLine := 278, endCol := 15 } [topFrame ({ line := 0, col := 0, endLine := 0, endCol := 0 } : Pos)]) = some (⟨hp30 (w).params, Array.mk [], { }, 704, os⟩ : Shared) := by kernel_rfl
theorem hcat : hB = (((hB.drop 0).take 3) ++ (((hB.drop 3).take 1) ++ (((hB.drop 4).take 26) ++ []))) := by kernel_rfl
theorem hrun (w : World) (os : OsState) : topRun treeTable hPr w 28 (some (PySem.Value.ref 6)) (12 + ((0 + 1) + ((69 + 1) + ((9 + 1) + ((2375 + 1) + (1 + 1)))))) (⟨hp0 (w).params, Array.mk [], { }, 276, os⟩ : Shared) (topStub hPr) = some (⟨hp30 (w).params, Array.mk [], { }, 704, os⟩ : Shared) := by
  have k := (piece_app (hseg3 w os) (piece_app (hseg4 w os) (piece_app (hseg30 w os) (hfin w os))))
  rw [← hcat] at k
  exact go_top (hpre w os) (piece_block (hblock w os) k)
theorem hsize (w : World) : ((hp0 w.params).isNs mainGlobals && (Array.mk [] : Array GenState).size == 0, (hp0 w.params).objs.size, (hp0 w.params).nsMap mainGlobals "__annotations__") = (true, 28, (some (PySem.Value.ref 6) : Option PySem.Value)) := by kernel_rfl
theorem hlooks (w : World) : (fun os => ((staticsOk (importedModules hPr.main.body) (hp0 w.params) (hp30 w.params) && namesBound hPr (hp30 w.params) && gensDone (⟨hp30 (w).params, Array.mk [], { }, 704, os⟩ : Shared) && laidKept (hp0 w.params) (hp30 w.params)), openSeen view04 [PySem.Str.ofString "_twin_re_1", PySem.Str.ofString "_special_chars_map"] (importedModules hPr.main.body) (fun s => xlAt view04 [] s && recOk (RowW.records PySem.Challenge.rw_dn0069_04.row.toRowW) s) true (⟨hp30 (w).params, Array.mk [], { }, 704, os⟩ : Shared), obsZ zas (⟨hp30 (w).params, Array.mk [], { }, 704, os⟩ : Shared))) = fun _ => (true, openGood view04 [PySem.Str.ofString "_twin_re_1", PySem.Str.ofString "_special_chars_map"], valZ zk 205 704 w) := by kernel_rfl
theorem hopen (w : World) : (fencedOpening treeTable hPr w 5032).map (fun s => (s.heap, s.gens, s.drawn, s.toks)) = some (hp0 w.params, Array.mk [], { }, 276) := by kernel_rfl
theorem said04 : PySem.Challenge.rw_dn0069_04.wellSaid = true := by
  kernel_rfl
theorem hleft : LeftO hPr view04 [PySem.Str.ofString "_twin_re_1", PySem.Str.ofString "_special_chars_map"] (fun s => xlAt view04 [] s && recOk (RowW.records PySem.Challenge.rw_dn0069_04.row.toRowW) s) (obsZ zas) (valZ zk 205 704) 5032 := LeftO.of_pieces (H₀ := hp0) (H₁ := hp30) (gs₀ := Array.mk []) (gs₁ := Array.mk []) (d₀ := { }) (d₁ := { }) (k₀ := 276) (k₁ := 704) (m₀ := 28) (ann := some (PySem.Value.ref 6)) (M := (12 + ((0 + 1) + ((69 + 1) + ((9 + 1) + ((2375 + 1) + (1 + 1))))))) hopen hsize hrun (by kernel_rfl) hlooks
end Mine
end H04x
section
open PySem
namespace Mine
noncomputable abbrev lobj (vs : Array Value) (n : Nat) : Obj := { cls := .type "list", data := .seq vs n }
noncomputable abbrev tobj (vs : Array Value) (n : Nat) : Obj := { cls := .type "tuple", data := .seq vs n }
noncomputable abbrev appObj (a : Addr) : Obj := { cls := .type "builtin_function_or_method", data := .fields #[.builtin "list.append", .ref a] }
theorem zdw : builtinKind "issubclass.nested" = none := by decide +kernel
theorem zc9 : plainId "issubclass.nested" = true := by decide +kernel
theorem zcY (a b c : Value) : argsOk "issubclass.nested" ⟨[a, b, c], []⟩ := by unfold argsOk; kernel_rfl
theorem zf4 : isSubtype (.type "str") (.type "str") = pure true := by rw [isSubtype_type]; kernel_rfl
section
variable {prog : Program} {w : World} {A : Around} {E : VP}
theorem zdQ (dep : Int) (tk : Tok) : Meets (Builtin.«issubclass.nested» ⟨[.type "str", .type "str", .int dep tk], []⟩) (fun _ R s => R (.ok (.ret (.bool true))) s) :=
  .of_wp fun prog w A R s h => by
    obtain ⟨hh, g, d, t, os⟩ := s
    have f1 := zf4
    have f2 : typeOf (.type "str") = pure (.type "type") := rfl
    repeat (any_goals (first | assumption | (rw [f1]) | wp_step))
    all_goals exact ⟨_, rfl, h⟩
theorem zde {tp : Addr} {c2 : Value} {n : Nat} {tk : Tok} {s : Shared} {Q : Fin → Shared → Prop} (htp : s.heap.get? tp = some { cls := .type "tuple", data := .seq [Value.type "str", c2].toArray n })
    (hq : ∀ tk', Q (.done (.ret (.bool true))) { s with toks := tk' }) : wpAny (model prog w) A (Builtin.«issubclass.nested» ⟨[.type "str", .ref tp, .int 0 tk], []⟩) Q E s := by
  obtain ⟨h, g, d, t, os⟩ := s
  have hT2 : (⟨h, g, d, t, os⟩ : Shared).TypeIs (.ref tp) "tuple" := ⟨_, htp, rfl⟩
  have f1 := F.isi_sub_tuple
  repeat (any_goals (first | assumption | ((with_reducible show wpAny _ _ (call (Value.builtin "issubclass.nested") _ _) _ _ _); refine call_function_meets zdw zc9 F.entry_issubclass_nested (zcY _ _ _) (zdQ _ _) ?_) | wp_step))
  exact hq _
theorem zdR {tp : Addr} {c2 : Value} {n : Nat} {s : Shared} {Q : VP} (htp : s.heap.get? tp = some { cls := .type "tuple", data := .seq [Value.type "str", c2].toArray n })
    (hq : ∀ tk', Q (.bool true) { s with toks := tk' }) : wpAny (model prog w) A (call (.builtin "issubclass") [.type "str", .ref tp]) Q E s := by
  have g : Meets (Builtin.«issubclass» ⟨[.type "str", .ref tp], []⟩) (fun _ R s => s.heap.get? tp = some { cls := .type "tuple", data := .seq [Value.type "str", c2].toArray n } ∧ ∀ tk', R (.ok (.ret (.bool true))) { s with toks := tk' }) :=
    fun _ _ _ _ _ hs => PyProof.Rows.issubclass_outer (zde hs.1 fun tk' => hs.2 tk')
  exact PyProof.Rows.call_issubclass g ⟨htp, fun tk' => hq tk'⟩
end
theorem zf5 : isSubtype (.type "str") (.type "list") = pure false := by rw [isSubtype_type]; kernel_rfl
theorem zfe : isSubtype (.type "str") (.type "tuple") = pure false := by rw [isSubtype_type]; kernel_rfl
theorem zet : isSubtype (.type "list") (.type "list") = pure true := by rw [isSubtype_type]; kernel_rfl
section
variable {prog : Program} {w : World} {A : Around} {E : VP}
theorem zdf {x : Str} {u : Tok} {T : String} (hne : (Value.type "str" == Value.type T) = false) (hty : typeOf (.type T) = pure (.type "type")) (hsub : isSubtype (.type "str") (.type T) = pure false) (dep : Int) (tk : Tok) :
    Meets (Builtin.«isinstance.nested» ⟨[.str x u, .type T, .int dep tk], []⟩) (fun _ R s => ∀ tk', R (.ok (.ret (.bool false))) { s with toks := tk' }) :=
  .of_wp fun prog w A R s h => by
    obtain ⟨hh, g, d, t, os⟩ := s
    exact isinstance_nested_false_str hne hty hsub ⟨_, rfl, h _⟩
theorem zfE {a : Addr} {vs : Array Value} {n : Nat} (dep : Int) (tk : Tok) :
    Meets (Builtin.«isinstance.nested» ⟨[.ref a, .type "list", .int dep tk], []⟩) (fun _ R s => s.heap.get? a = some (lobj vs n) ∧ ∀ tk', R (.ok (.ret (.bool true))) { s with toks := tk' }) :=
  .of_wp fun prog w A R s h => by
    obtain ⟨hh, g, d, t, os⟩ := s
    obtain ⟨hl, h⟩ := h
    have hT : (⟨hh, g, d, t, os⟩ : Shared).TypeIs (.ref a) "list" := ⟨_, hl, rfl⟩
    refine isinstance_nested_true rfl hT rfl zet ⟨_, rfl, h _⟩
set_option maxHeartbeats 4000000 in
theorem zfD {x : Str} {u : Tok} {tp : Addr} {n : Nat} {tk : Tok} {s : Shared} {Q : Fin → Shared → Prop} (htp : s.heap.get? tp = some { cls := .type "tuple", data := .seq [Value.type "list", Value.type "tuple"].toArray n })
    (hq : ∀ tk', Q (.done (.ret (.bool false))) { s with toks := tk' }) : wpAny (model prog w) A (Builtin.«isinstance.nested» ⟨[.str x u, .ref tp, .int 0 tk], []⟩) Q E s := by
  obtain ⟨h, g, d, t, os⟩ := s
  have hT2 : (⟨h, g, d, t, os⟩ : Shared).TypeIs (.ref tp) "tuple" := ⟨_, htp, rfl⟩
  have hx : ∀ t', (⟨h, g, d, t', os⟩ : Shared).TypeIs (.str x u) "str" := fun _ => rfl
  have f1 := F.isi_sub_tuple
  have k1 := fun tk => zdf (x := x) (u := u) (T := "list") (by decide) rfl zf5 1 tk
  have k2 := fun tk => zdf (x := x) (u := u) (T := "tuple") (by decide) rfl zfe 1 tk
  repeat (any_goals (first | assumption | exact hx _ | ((with_reducible show wpAny _ _ (call (Value.builtin "isinstance.nested") _ _) _ _ _); refine call_function_meets F.kind_isinstance_nested F.plain_isinstance_nested F.entry_isinstance_nested (F.args_isinstance_nested_3 _ _ _) (by first | exact k1 _ | exact k2 _) (fun tk' => ?_)) | wp_step))
  all_goals exact hq _
theorem zeB {a : Addr} {vs : Array Value} {k : Nat} {tp : Addr} {n : Nat} {c2 : Value} {tk : Tok} {s : Shared} {Q : Fin → Shared → Prop} (hl : s.heap.get? a = some (lobj vs k)) (htp : s.heap.get? tp = some { cls := .type "tuple", data := .seq [Value.type "list", c2].toArray n })
    (hq : ∀ tk', Q (.done (.ret (.bool true))) { s with toks := tk' }) : wpAny (model prog w) A (Builtin.«isinstance.nested» ⟨[.ref a, .ref tp, .int 0 tk], []⟩) Q E s := by
  obtain ⟨h, g, d, t, os⟩ := s
  have hT2 : (⟨h, g, d, t, os⟩ : Shared).TypeIs (.ref tp) "tuple" := ⟨_, htp, rfl⟩
  have hx : ∀ t', (⟨h, g, d, t', os⟩ : Shared).TypeIs (.ref a) "list" := fun _ => ⟨_, hl, rfl⟩
  have f1 := F.isi_sub_tuple
  have k1 := fun tk => zfE (a := a) (vs := vs) (n := k) 1 tk
  repeat (any_goals (first | assumption | exact hx _ | ((with_reducible show wpAny _ _ (call (Value.builtin "isinstance.nested") _ _) _ _ _); refine call_function_meets F.kind_isinstance_nested F.plain_isinstance_nested F.entry_isinstance_nested (F.args_isinstance_nested_3 _ _ _) (k1 _) ⟨hl, fun tk' => ?_⟩) | wp_step))
  all_goals exact hq _
theorem zgH {x : Str} {u : Tok} {tp : Addr} {n : Nat} {s : Shared} {Q : VP} (htp : s.heap.get? tp = some { cls := .type "tuple", data := .seq [Value.type "list", Value.type "tuple"].toArray n })
    (hq : ∀ tk', Q (.bool false) { s with toks := tk' }) : wpAny (model prog w) A (call (.builtin "isinstance") [.str x u, .ref tp]) Q E s := by
  have g : Meets (Builtin.«isinstance» ⟨[.str x u, .ref tp], []⟩) (fun _ R s => s.heap.get? tp = some { cls := .type "tuple", data := .seq [Value.type "list", Value.type "tuple"].toArray n } ∧ ∀ tk', R (.ok (.ret (.bool false))) { s with toks := tk' }) :=
    fun _ _ _ _ s hs => isinstance_outer (zfD hs.1 fun tk' => hs.2 tk') (Shared.TypeIs.not_mainsLoader (T := "str") (s := s) rfl)
  exact call_isinstance g ⟨htp, fun tk' => hq tk'⟩
theorem zfN {a : Addr} {vs : Array Value} {k : Nat} {tp : Addr} {n : Nat} {c2 : Value} {s : Shared} {Q : VP} (hl : s.heap.get? a = some (lobj vs k)) (htp : s.heap.get? tp = some { cls := .type "tuple", data := .seq [Value.type "list", c2].toArray n })
    (hq : ∀ tk', Q (.bool true) { s with toks := tk' }) : wpAny (model prog w) A (call (.builtin "isinstance") [.ref a, .ref tp]) Q E s := by
  have g : Meets (Builtin.«isinstance» ⟨[.ref a, .ref tp], []⟩) (fun _ R s => s.heap.get? a = some (lobj vs k) ∧ s.heap.get? tp = some { cls := .type "tuple", data := .seq [Value.type "list", c2].toArray n } ∧ ∀ tk', R (.ok (.ret (.bool true))) { s with toks := tk' }) :=
    fun _ _ _ _ s hs => isinstance_outer (zeB hs.1 hs.2.1 fun tk' => hs.2.2 tk') (Shared.TypeIs.not_mainsLoader (T := "list") (s := s) ⟨_, hs.1, rfl⟩)
  exact call_isinstance g ⟨hl, htp, fun tk' => hq tk'⟩
end
section
variable {prog : Program} {w : World} {A : Around} {E : VP} {s : Shared}
end
theorem slot_md_get : PySem.Slot "method_descriptor" "__get__" "method_descriptor.__get__" :=
  PySem.Slot.of (owner := "method_descriptor") (n := "__get__") (by rw [typeLookup_type, builtinLookup_eq_fast]; kernel_rfl) (by decide +kernel) (by decide +kernel) (by decide +kernel)
    (by first | exact .inl (by decide +kernel) | exact .inr (by decide +kernel)) (by rw [isSubtype_type]; kernel_rfl)
theorem zgC : entryFor table "method_descriptor.__get__" = some Builtin.«method_descriptor.__get__» := entryFor_of_tree (by kernel_rfl)
theorem zfR (a b c : Value) : argsOk "method_descriptor.__get__" ⟨[a, b, c], []⟩ := by unfold argsOk; kernel_rfl
theorem zjN : typeLookup (.type "method_descriptor") "__set__" = pure none := by rw [typeLookup_type, builtinLookup_eq_fast]; kernel_rfl
theorem zgj : typeLookup (.type "method_descriptor") "__delete__" = pure none := by rw [typeLookup_type, builtinLookup_eq_fast]; kernel_rfl
theorem zhg : builtinKind "list.append" = some .method := by decide +kernel
theorem zd7 : isSubtype (.type "list") (.type "module") = pure false := by rw [isSubtype_type]; kernel_rfl
section
variable {prog : Program} {w : World} {A : Around} {E : VP} {s : Shared}
theorem zho {l : Addr} {items : Array Value} {n : Nat} {x : Value} {Q : Unit → Shared → Prop} (hl : s.heap.get? l = some (lobj items n)) (h : Q () s) : wpAny (model prog w) A (checkBoundCall "list.append" ⟨[.ref l, x], []⟩) Q E s := by
  obtain ⟨hp, g, d, tk, os⟩ := s
  have hT : (⟨hp, g, d, tk, os⟩ : Shared).TypeIs (.ref l) "list" := ⟨_, hl, rfl⟩
  have f1 := zd7
  have f2 := zhg
  unfold checkBoundCall
  repeat (any_goals (first | assumption | wp_step))
theorem ziP {b l : Addr} {items : Array Value} {n : Nat} {x : Value} {R : Result → Shared → Prop} (hb : s.heap.get? b = some (appObj l)) (hl : s.heap.get? l = some (lobj items n))
    (h : codeAny (model prog w) A (.builtin "list.append" ⟨[.ref l, x], []⟩) R s) : codeAny (model prog w) A (.call (.ref b) ⟨[x], []⟩) R s := by
  refine codeAny_of_tree ?_
  show wpAny _ _ (callAny (.ref b) _) _ _ _
  unfold callAny
  refine wb (wpAny_load hb ?_)
  refine wb (zho hl ?_)
  exact wpAny_pure ⟨Code.quiet_builtin _ (by decide +kernel), h⟩
theorem zhs {l : Addr} {items : Array Value} {n : Nat} {x : Value} {R : Result → Shared → Prop} (hl : s.heap.get? l = some (lobj items n)) (hsz : items.size ≤ sizeLine)
    (h : R (.ok (.ret .none)) { s with heap := s.heap.update l (Obj.mapSeq fun y => y.push x) }) : codeAny (model prog w) A (.builtin "list.append" ⟨[.ref l, x], []⟩) R s := by
  refine codeAny_builtin F.entry_list_append ?_
  exact list_append l items n x hsz prog w _ _ s ⟨hl, h⟩
theorem zgm {b l : Addr} {Q : Keeper → Shared → Prop} (hb : s.heap.get? b = some (appObj l)) (h : Q .machine s) : wpAny (model prog w) A (keeperOf (.ref b)) Q E s := by
  unfold keeperOf
  exact wb (wpAny_load hb (wpAny_pure h))
theorem zeG {b l : Addr} {pos : Pos} {args : List (Bool × Sem Value)} {Q : VP} (hplain : args.any (·.1) = false)
    (h : wpAny (model prog w) A (evalArgs (.ref b) true args []) (fun a s₁ => s₁.heap.get? b = some (appObj l) ∧ wpAny (model prog w) A (call (.ref b) a.pos a.kw) Q E s₁) E s) :
    wpAny (model prog w) A (callWith pos (.ref b) [] args []) Q E s := by
  unfold callWith
  refine wb (wpAny_holding (wpAny_mono h (fun a s₁ h₁ => wb (wpAny_standAt ?_)) fun _ _ x => x))
  simp only [hplain, List.any_nil, Bool.or_false]
  refine wb (zgm h₁.1 ?_)
  exact wb (wpAny_mono h₁.2 (fun r s₂ hr => wb (wpAny_holding (wpAny_point (wpAny_pure hr)))) fun _ _ x => x)
theorem sub_list_list : isSubtype (.type "list") (.type "list") = pure true := by rw [isSubtype_type]; kernel_rfl
theorem zgi (l : Addr) (items : Array Value) (n : Nat) :
    Meets (Builtin.«method_descriptor.__get__» ⟨[.builtin "list.append", .ref l, .type "list"], []⟩) (fun A R s => s.heap.get? l = some (lobj items n) ∧ R (.ok (.ret (.ref s.heap.objs.size))) { s with heap := s.heap.push (appObj l) }) :=
  Meets.of_wp fun prog w A R s hs => by
    obtain ⟨hp, g, d, tk, os⟩ := s
    obtain ⟨hl, h⟩ := hs
    have hT : (⟨hp, g, d, tk, os⟩ : Shared).TypeIs (.ref l) "list" := ⟨_, hl, rfl⟩
    have f1 := sub_list_list
    have f2 : (Manifest.toldItsClass.contains "list.append") = false := by decide +kernel
    unfold Builtin.«method_descriptor.__get__»
    simp only [f2]
    repeat (any_goals (first | assumption | wp_step))
    rw [show (".".intercalate ("list.append".cutAt '.').dropLast) = "list" by decide +kernel]
    rw [f1]
    refine wpAny_pure ?_
    rw [if_neg (by decide)]
    refine wpAny_pure ?_
    show wpAny _ _ (newFields "builtin_function_or_method" [.builtin "list.append", .ref l] >>= fun v => ret v) _ _ _
    exact wb (wpAny_newObj_type (wpAny_pure ⟨_, rfl, h⟩))
theorem zhr : (["__module__", "__name__", "__qualname__", "__doc__", "__annotations__"] : List Str).contains "append" = false := by decide +kernel
theorem zbN (l : Addr) (items : Array Value) (n : Nat) (u : Tok) :
    Meets (Builtin.«object.__getattribute__» ⟨[.ref l, .str "append" u], []⟩) (fun A R s => s.heap.get? l = some (lobj items n) ∧ R (.ok (.ret (.ref s.heap.objs.size))) { s with heap := s.heap.push (appObj l) }) :=
  Meets.of_wp fun prog w A R s hs => by
    obtain ⟨hp, g, d, tk, os⟩ := s
    obtain ⟨hl, h⟩ := hs
    have hT : (⟨hp, g, d, tk, os⟩ : Shared).TypeIs (.ref l) "list" := ⟨_, hl, rfl⟩
    have hM : (⟨hp, g, d, tk, os⟩ : Shared).TypeIs (.builtin "list.append") "method_descriptor" := F.type_list_append
    have f1 := F.slot_list_append.lookup
    have f2 := slot_md_get.lookup
    have f3 := zjN
    have f4 := zgj
    have f5 := zhr
    unfold Builtin.«object.__getattribute__»
    repeat (any_goals (first | assumption | ((with_reducible show wpAny _ _ (call (Value.builtin "method_descriptor.__get__") _ _) _ _ _); refine call_meets slot_md_get hM zgC (zfR _ _ _) (zgi l items n) ⟨hl, ?_⟩) | wp_step))
    exact wpAny_pure ⟨_, rfl, h⟩
theorem zeC {l : Addr} {items : Array Value} {n : Nat} {Q : VP} (hl : s.heap.get? l = some (lobj items n)) (h : Q (.ref s.heap.objs.size) { s with heap := s.heap.push (appObj l), toks := s.toks + 1 }) :
    wpAny (model prog w) A (getAttr (.ref l) "append" true) Q E s := by
  obtain ⟨hp, g, d, tk, os⟩ := s
  have hT : ∀ tk', (⟨hp, g, d, tk', os⟩ : Shared).TypeIs (.ref l) "list" := fun _ => ⟨_, hl, rfl⟩
  have f3 := F.slot_list_getattribute.lookup
  have f4 := F.slot_list_getattribute.bind (.ref l)
  have f5 := am_list_getattr_none
  unfold getAttr getAttrBy
  repeat (any_goals (first | assumption | exact hT _ | ((with_reducible show wpAny _ _ (call (Value.builtin "list.__getattribute__") _ _) _ _ _); refine call_meets F.slot_list_getattribute (hT _) am_entry_list_getattribute (F.args_list_getattribute_2 _ _) (zbN l items n _) ⟨hl, ?_⟩) | wp_step))
  show wpAny _ _ (handedOut (.ref _)) _ _ _
  exact wpAny_pure h
end
theorem zeu : isSubtype (.type "KeyError") (.type "LookupError") = pure true := by rw [isSubtype_type]; kernel_rfl
section
variable {prog : Program} {w : World} {A : Around} {E : VP} {s : Shared}
theorem ziX {d : Addr} {f : Int → Option Value} {c : Nat} {t : PySem.Str} {u : Tok} {Q : Builtin.Str.Mapped → Shared → Prop} (hm : s.heap.MapOf (intKind prog w) d f) (hv : f (c : Int) = some (.str t u)) (h : ∀ k, Q (.text t) { s with toks := k }) :
    wpAny (model prog w) A (Builtin.Str.tableLookup (.ref d) c) Q E s := by
  unfold Builtin.Str.tableLookup
  refine wb (wpAny_attempt (wb (wpAny_mkInt (wpAny_getItem_of (knd := intKind prog w) (k := (c : Int)) (v := .str t u) (by simp [intKind, Value.isInt]) hm hv ?_))))
  obtain ⟨hh, g, dd, tk, os⟩ := s
  repeat (any_goals (first | assumption | wp_step))
  exact h _
theorem zib {d : Addr} {f : Int → Option Value} {c : Nat} {Q : Builtin.Str.Mapped → Shared → Prop} (hh : A.handled = none) (hm : s.heap.MapOf (intKind prog w) d f) (hd : (d == sysModules) = false) (hv : f (c : Int) = none)
    (h : ∀ h' k, (∀ b o, s.heap.get? b = some o → h'.get? b = some o) → Q .keep { s with heap := h', toks := k }) :
    wpAny (model prog w) A (Builtin.Str.tableLookup (.ref d) c) Q E s := by
  unfold Builtin.Str.tableLookup
  refine wb (wpAny_attempt (wb (wpAny_mkInt (wpAny_getItem_missing_of (knd := intKind prog w) (k := (c : Int)) (by simp [intKind, Value.isInt]) hd hh hm hv fun h' e ne => ?_))))
  obtain ⟨ob, t, g1, g2, g3⟩ := ne.there
  show wpAny _ _ (do if ← isInstance (.ref e) (.type "LookupError") then rule "str.translate.not-in-table"; pure Builtin.Str.Mapped.keep else throw (.ref e)) _ _ _
  refine wb (wpAny_isInstance (T := "KeyError") (b := true) ⟨ob, g1, g2⟩ zeu ?_)
  rw [if_pos rfl]
  exact wb (wpAny_rule (wpAny_pure (h _ _ ne.keeps)))
set_option maxHeartbeats 2000000 in
theorem zfc {d : Addr} {f : Int → Option Value} {c x : Nat} {t u : Tok} (hc : c < 128) :
    MeetsIn prog w (Builtin.«str.translate» ⟨[.str ⟨#[c]⟩ t, .ref d], []⟩) (fun A R s => (s.heap.MapOf (intKind prog w) d f ∧ f (c : Int) = some (.str ⟨#[92, x]⟩ u)) ∧ ∀ k k', R (.ok (.ret (.str ⟨#[92, x]⟩ k))) { s with toks := k' }) :=
  .of_wp fun A R s hs => by
    obtain ⟨hh, g, dd, tk, os⟩ := s
    obtain ⟨⟨hm, hv⟩, h⟩ := hs
    have hc' : decide (c < 128) = true := by simpa using hc
    repeat (any_goals (first | assumption | ((with_reducible show wpAny _ _ (Builtin.Str.tableLookup _ _) _ _ _); refine ziX hm hv fun k => ?_) | wp_step))
    exact ⟨_, rfl, h _ _⟩
set_option maxHeartbeats 2000000 in
theorem zes {d : Addr} {f : Int → Option Value} {c : Nat} {t : Tok} (hc : c < 128) (hd : (d == sysModules) = false) :
    MeetsIn prog w (Builtin.«str.translate» ⟨[.str ⟨#[c]⟩ t, .ref d], []⟩) (fun A R s => (s.heap.MapOf (intKind prog w) d f ∧ f (c : Int) = none ∧ A.handled = none) ∧ ∀ h' k k', (∀ b o, s.heap.get? b = some o → h'.get? b = some o) → R (.ok (.ret (.str ⟨#[c]⟩ k))) { s with heap := h', toks := k' }) :=
  .of_wp fun A R s hs => by
    obtain ⟨hh, g, dd, tk, os⟩ := s
    obtain ⟨⟨hm, hv, hA⟩, h⟩ := hs
    have hc' : decide (c < 128) = true := by simpa using hc
    repeat (any_goals (first | assumption | ((with_reducible show wpAny _ _ (Builtin.Str.tableLookup _ _) _ _ _); refine zib hA hm hd hv fun h' k hk => ?_) | wp_step))
    exact ⟨_, rfl, h _ _ _ hk⟩
end
end Mine
end
section MpZ0x
open PySem
namespace Mine
open PySem.Builtin PySem.Builtin.Re
noncomputable def reCode : Array Nat := #[14, 14, 4, 1, 1, 9, 0, 64, 0, 1342177280, 0, 0, 0, 0, 0, 17, 0, 13, 11, 9, 0, 64, 0, 1342177280, 0, 0, 0, 0, 0, 17, 1, 1]
theorem zbW {m : Sre.M} (h : m.outcome.isSome = true) : ∀ n, m.runFor n = m
  | 0 => rfl
  | n + 1 => by unfold Sre.M.runFor; rw [if_pos h]
theorem zeQ : ∀ (a b : Nat) (m : Sre.M), m.runFor (a + b) = (m.runFor a).runFor b
  | 0, b, m => by rw [Nat.zero_add]; rfl
  | a + 1, b, m => by
    rw [Nat.succ_add]
    by_cases h : m.outcome.isSome = true
    · rw [zbW h, zbW h, zbW h]
    · have e1 : ∀ n, Sre.M.runFor (n + 1) m = Sre.M.runFor n m.step := fun n => by
        conv => lhs; unfold Sre.M.runFor
        rw [if_neg h]
      show Sre.M.runFor (a + b + 1) m = _
      rw [e1, e1]
      exact zeQ a b m.step
section
variable {prog : Program} {w : World} {A : Around} {E : VP} {s : Shared}
theorem zh3 : ∀ (k t : Nat) (m : Sre.M), (m.runFor (4 * (k + 1))).outcome.isSome = true → k < t → ∀ {Q : Sre.M → Shared → Prop}, Q (m.runFor (4 * (k + 1))) s → wpAny (model prog w) A (reDrive t m) Q E s
  | k, 0, m, _, h, _, _ => absurd h (Nat.not_lt_zero _)
  | 0, t + 1, m, ho, h, Q, hQ => by
    unfold reDrive
    show wpAny _ _ (if (m.runFor 4).outcome.isSome = true then pure (m.runFor 4) else _) _ _ _
    rw [if_pos ho]
    exact wpAny_pure hQ
  | k + 1, t + 1, m, ho, h, Q, hQ => by
    unfold reDrive
    have e : m.runFor (4 * (k + 1 + 1)) = (m.runFor 4).runFor (4 * (k + 1)) := by
      rw [show 4 * (k + 1 + 1) = 4 + 4 * (k + 1) from Nat.add_comm (4 * (k + 1)) 4]
      exact zeQ 4 _ m
    rw [e] at ho hQ
    show wpAny _ _ (if (m.runFor 4).outcome.isSome = true then pure (m.runFor 4) else (do rule "sre.turn"; reDrive t (m.runFor 4))) _ _ _
    by_cases h4 : (m.runFor 4).outcome.isSome = true
    · rw [if_pos h4]
      rw [zbW h4] at hQ
      exact wpAny_pure hQ
    · rw [if_neg h4]
      exact wb (wpAny_rule (zh3 k t (m.runFor 4) ho (Nat.lt_of_succ_lt_succ h) hQ))
theorem zg2 (sn : Sre.Seen) : ∀ (l : List Nat) {Q : PUnit → Shared → Prop}, Q ⟨⟩ s → wpAny (model prog w) A (forIn l PUnit.unit fun i _ => do
      if sn.has i then
        rule (Sre.names.getD i "")
        pure (ForInStep.yield PUnit.unit)
      else pure (ForInStep.yield PUnit.unit)) Q E s
  | [], Q, h => by rw [List.forIn_nil]; exact wpAny_pure h
  | i :: l, Q, h => by
    rw [List.forIn_cons]
    split
    · exact wb (wb (wpAny_rule (wpAny_pure (zg2 sn l h))))
    · exact wb (wpAny_pure (zg2 sn l h))
theorem ziF {m : Sre.M} (k : Nat) (hk : k < 100) (h : (m.runFor (4 * (k + 1))).outcome = some .failed) {Q : Option Sre.M → Shared → Prop} (hQ : Q none s) : wpAny (model prog w) A (reRunToEnd m) Q E s := by
  unfold reRunToEnd
  refine wb (zh3 k (2 ^ 64) m (by rw [h]; rfl) (Nat.lt_trans hk (by decide)) ?_)
  refine wb (zg2 _ _ ?_)
  rw [h]
  exact wpAny_pure hQ
end
end Mine
end MpZ0x
section MpZ1x
open PySem
namespace Mine
open PySem.Builtin PySem.Builtin.Re
theorem zey : PlainAttrs "re.Pattern" :=
  ⟨⟨"object.__getattribute__", by rw [typeLookup_type, builtinLookup_eq_fast]; kernel_rfl, by decide +kernel⟩, by rw [typeLookup_type, builtinLookup_eq_fast]; kernel_rfl⟩
theorem zdC : PySem.Slot "re.Pattern" "sub" "re.Pattern.sub" :=
  PySem.Slot.of (owner := "re.Pattern") (n := "sub") (by rw [typeLookup_type, builtinLookup_eq_fast]; kernel_rfl) (by decide +kernel) (by decide +kernel) (by decide +kernel)
    (by first | exact .inl (by decide +kernel) | exact .inr (by decide +kernel)) (by rw [isSubtype_type]; kernel_rfl)
theorem zfU : typeOf (.builtin "re.Pattern.sub") = pure (.type "method_descriptor") := by show builtinType _ = _; rw [builtinType_eq_fast]; kernel_rfl
theorem zfI : entryFor table "re.Pattern.sub" = some Builtin.«re.Pattern.sub» := entryFor_of_tree (by kernel_rfl)
theorem zeD : entryFor table "re.Pattern.sub.loop" = some Builtin.«re.Pattern.sub.loop» := entryFor_of_tree (by kernel_rfl)
theorem zeH (a b c : Value) : argsOk "re.Pattern.sub" ⟨[a, b, c], []⟩ := by unfold argsOk; kernel_rfl
theorem zcL : plainId "re.Pattern.sub.loop" = true := by decide +kernel
set_option genInjectivity false in
structure PatAt (h : Heap) (P C : Addr) (codes : Array Value) : Prop where
  pat : ∃ x t u v w y, h.get? P = some { cls := .type "re.Pattern", data := .fields #[.str x t, .int 32 u, .int 1 v, .none, .none, .ref C, .int 0 w] } ∧ y = (0 : Nat)
  code : ∃ n, h.get? C = some (tobj codes n)
  is : (codes.map reRawOf).map Int.toNat = reCode
theorem PatAt.keeps {h h' : Heap} {P C : Addr} {codes : Array Value} (x : PatAt h P C codes) (hk : ∀ b o, h.get? b = some o → h'.get? b = some o) : PatAt h' P C codes := by
  obtain ⟨a, t, u, v, w, y, e, r⟩ := x.pat
  obtain ⟨n, e2⟩ := x.code
  exact ⟨⟨a, t, u, v, w, y, hk _ _ e, r⟩, ⟨n, hk _ _ e2⟩, x.is⟩
section
variable {prog : Program} {w : World} {A : Around} {E : VP} {s : Shared} {P C : Addr} {codes : Array Value} {a : Array Nat} {u : Tok}
theorem zht (hp : PatAt s.heap P C codes) {Q : ReTarget → Shared → Prop} (hQ : Q { pattern := .ref P, string := .str ⟨a⟩ u, code := reCode, text := a, kind := 0, groups := 1, pos := 0, lim := a.size } s) :
    wpAny (model prog w) A (reWholeTarget (.ref P) (.str ⟨a⟩ u)) Q E s := by
  obtain ⟨hh, g, d, tk, os⟩ := s
  obtain ⟨x, t, u', v, w', _, e, _⟩ := hp.pat
  obtain ⟨n, ec⟩ := hp.code
  unfold reWholeTarget
  refine wb (wpAny_fieldsOf e rfl ?_)
  have ht : ∀ {Q : Array Nat × Nat → Shared → Prop}, Q (a, 0) ⟨hh, g, d, tk, os⟩ → wpAny (model prog w) A (reTextOf (.str ⟨a⟩ u)) Q E ⟨hh, g, d, tk, os⟩ := by
    intro Q h
    unfold reTextOf
    repeat (any_goals (first | assumption | wp_step))
  refine wb (ht ?_)
  have hr : ∀ {Q : Array Int → Shared → Prop}, Q (codes.map reRawOf) ⟨hh, g, d, tk, os⟩ → wpAny (model prog w) A (reRawItems (.ref C)) Q E ⟨hh, g, d, tk, os⟩ := by
    intro Q h
    unfold reRawItems
    exact wb (wpAny_seqItems ec rfl (wpAny_pure h))
  dsimp only
  unfold reNoCollectionInside
  repeat (any_goals (first | assumption | ((with_reducible show wpAny _ _ (reRawItems _) _ _ _); refine hr ?_) | wp_step))
  have := hp.is
  rw [show (codes.map reRawOf).map (fun x => x.toNat) = reCode from this]
  exact hQ
end
end Mine
end MpZ1x
section
open PySem
namespace Mine
inductive D where
  | none
  | bool (b : Bool)
  | int (i : Int)
  | str (l : List Nat)
  | list (l : List D)
  | tup (l : List D)
  | tok (k : Nat)
  | ty (n : String)
  deriving Inhabited
abbrev CfT := Nat → List D → Option D
inductive R where
  | val (d : D)
  | own (l : List D)
  | bor (l : List D)
noncomputable def R.ds : R → D
  | .val d => d
  | .own l => .list l
  | .bor l => .list l
noncomputable def R.fz : R → Option D
  | .val d => some d
  | .own l => some (.list l)
  | .bor _ => none
inductive Slot where
  | unset
  | val (d : D)
  | own (l : List D)
  | app (j : Nat)
  | fdic (l : List D)
set_option genCtorIdx false in
inductive Op where
  | add | sub | mul | fdiv | mod | pow | neg
  | eq | ne | lt | le | gt | ge | is_ | isnot | in_ | notin
  | index | slice | slice3 | len | abs | sum
  | tyOf | isInst | isSub
  | rfind | find4 | startswith | endswith | rstrip | lstrip | replace | join | split | translate | resub | count | strIndex | resub0
  | listOf | tupleOf | sorted | min | max | fmt | lindex
  | other (n : Nat)
set_option genCtorIdx false in
set_option genInjectivity false in
inductive X where
  | const (d : D)
  | var (i : Nat)
  | op (o : Op) (a : X)
  | nil
  | cons (a r : X)
  | star (a : X)
  | and (a b : X)
  | or (a b : X)
  | not (a : X)
  | ite (c t e : X)
  | call (f : Nat) (a : X)
  | tup (a : X)
  | list (a : X)
  | comp (i : Nat) (it cond elt : X)
  | comp2 (i j : Nat) (it cond elt : X)
  | comp3 (i : Nat) (it : X) (j : Nat) (jt elt : X)
  | mapF (f : Nat) (a : X)
  | seqI (a : X)
  | rangeI (a : X)
  | enumI (a : X)
  | setI (i : Nat) (it elt : X)
  | dNot (i : Nat) (a : X)
  | dGet (i : Nat) (a : X)
  | dKeys (i : Nat)
set_option genCtorIdx false in
set_option genInjectivity false in
inductive S where
  | skip
  | seq (a b : S)
  | fz (i : Nat)
  | assign (i : Nat) (x : X)
  | assignO (i : Nat) (x : X)
  | assign2 (i j : Nat) (x : X)
  | assign3 (i j k : Nat) (x : X)
  | assign1 (i : Nat) (x : X)
  | alias (i j : Nat)
  | append (i : Nat) (x : X)
  | appendVia (i j : Nat) (x : X)
  | aug (i : Nat) (x : X)
  | extend (i : Nat) (x : X)
  | pop (i : Nat)
  | setItem (i : Nat) (k x : X)
  | augItem (i : Nat) (k x : X)
  | delItem (i : Nat) (k : X)
  | ite (c : X) (a b : S)
  | while (c : X) (b : S)
  | forE (i : Nat) (it : X) (b : S)
  | forE2 (i j : Nat) (it : X) (b : S)
  | forN (is : List Nat) (it : X) (b : S)
  | ret (x : X)
  | brk
  | cont
  | assert (c : X)
  | try_ (b : S)
  | tryV (f : Nat) (a : X) (b : S)
  | dNew (i : Nat)
  | dSet (i : Nat) (k x : X)
  | dFz (i : Nat)
inductive Out where
  | next
  | brk
  | cont
  | ret (d : D)
noncomputable def lim : Nat := 1000000
noncomputable def tokC : Nat → List Nat
  | 0 => [42]
  | _ => [63]
mutual
noncomputable def D.toPy : D → PyData
  | .none => .none
  | .bool b => .bool b
  | .int i => .int i
  | .str l => .str ⟨l.toArray⟩
  | .list l => .list (D.toPys l)
  | .tup l => .tuple (D.toPys l)
  | .tok k => .list [.str ⟨(tokC k).toArray⟩]
  | .ty _ => .none
noncomputable def D.toPys : List D → List PyData
  | [] => []
  | d :: r => d.toPy :: D.toPys r
end
mutual
noncomputable def D.ok : Nat → D → Bool
  | 0, _ => false
  | n + 1, .list l => D.oks n l
  | n + 1, .tup l => D.oks n l
  | _ + 1, .ty _ => false
  | n + 1, .tok k => decide (0 < n) && decide (k < 2)
  | _ + 1, _ => true
noncomputable def D.oks : Nat → List D → Bool
  | _, [] => true
  | n, d :: r => d.ok n && D.oks n r
end
noncomputable def D.truth : D → Option Bool
  | .none => some false
  | .bool b => some b
  | .int i => some (decide (i ≠ 0))
  | .str l => some (!l.isEmpty)
  | .list l => some (!l.isEmpty)
  | .tup l => some (!l.isEmpty)
  | _ => Option.none
noncomputable def eqD : D → D → Option Bool
  | .str a, .str b => some (decide (a = b))
  | .int a, .int b => some (decide (a = b))
  | a, b => if a.ok 9 && b.ok 9 then some (PyData.eqv a.toPy b.toPy) else none
noncomputable def inD (d : D) : D → Option Bool
  | .list l => if D.oks 8 l && d.ok 9 then some ((D.toPys l).any fun y => PyData.eqv y d.toPy) else none
  | .tup l => if D.oks 8 l && d.ok 9 then some ((D.toPys l).any fun y => PyData.eqv y d.toPy) else none
  | .str b => match d with
    | .str a => some (Txt.contains ⟨b.toArray⟩ ⟨a.toArray⟩)
    | _ => none
  | _ => none
noncomputable def noneB : D → Option Bool
  | .ty _ => none
  | .none => some true
  | _ => some false
noncomputable def isD (a : D) : D → Option Bool
  | .none => noneB a
  | .tok j => (match a with
    | .tok i => if i < 2 ∧ j < 2 then some (decide (i = j)) else none
    | .str _ => some false
    | .none => some false
    | _ => none)
  | .str _ => (match a with
    | .tok _ => some false
    | _ => none)
  | _ => none
noncomputable def ltL (a b : List Nat) : Bool := decide (a < b)
noncomputable def place (i : Int) (n : Nat) : Option Nat :=
  if 0 ≤ i then (if i < n then some i.toNat else none) else (if 0 ≤ i + n then some (i + n).toNat else none)
noncomputable def small (i : Int) : Bool := decide (-1000000000 ≤ i) && decide (i ≤ 1000000000)
noncomputable def clip (i : Int) (n : Nat) : Nat := if i < 0 then (i + n).toNat else if i < n then i.toNat else n
noncomputable def bound (d : D) (dflt n : Nat) : Option Nat := match d with
  | .none => some dflt
  | .int i => if small i then some (clip i n) else none
  | _ => none
noncomputable def cut {α : Type} (l : List α) (lo hi : Nat) : List α := (l.drop lo).take (hi - lo)
noncomputable def pick {α : Type} (l : List α) (lo hi st : Option Int) : List α :=
  (sliceRange (sliceBounds lo hi st l.length).1 (sliceBounds lo hi st l.length).2.1 (sliceBounds lo hi st l.length).2.2).filterMap (l[·]?)
noncomputable def partD : D → Option (Option Int)
  | .none => some none
  | .int i => if small i then some (some i) else none
  | _ => none
noncomputable def toInts : List D → Option (List Int)
  | [] => some []
  | .int i :: r => (toInts r).map (i :: ·)
  | _ :: _ => none
noncomputable def toStrs : List D → Option (List (List Nat))
  | [] => some []
  | .str s :: r => (toStrs r).map (s :: ·)
  | _ :: _ => none
noncomputable def strD (l : List Nat) : Option R := if l.length ≤ lim then some (.val (.str l)) else none
noncomputable def intD : D → Option Int
  | .int i => some i
  | _ => none
noncomputable def strO : D → Option (List Nat)
  | .str l => some l
  | _ => none
noncomputable def lstO : D → Option (List D)
  | .list l => some l
  | _ => none
noncomputable def two (f : D → D → Option R) : List D → Option R
  | [a, b] => f a b
  | _ => none
noncomputable def int2 (f : Int → Int → Option R) : List D → Option R := two fun a b => (intD a).bind fun a => (intD b).bind fun b => f a b
noncomputable def addD (a b : D) : Option R := match a with
  | .int a => (intD b).bind fun b => some (.val (.int (a + b)))
  | .str a => (strO b).bind fun b => if a.length + b.length ≤ lim then some (.val (.str (a ++ b))) else none
  | .list a => (lstO b).bind fun b => if a.length + b.length ≤ lim then some (.own (a ++ b)) else none
  | _ => none
noncomputable def opAdd : List D → Option R := two addD
noncomputable def opSub : List D → Option R := int2 fun a b => some (.val (.int (a - b)))
noncomputable def rep {α : Type} (l : List α) (n : Int) : List α := (List.replicate n.toNat l).flatten
noncomputable def mulBy (b : Int) : D → Option R
  | .int a => if small a || small b then some (.val (.int (a * b))) else none
  | .str a => if small b && decide (a.length * b.toNat ≤ lim) then some (.val (.str (rep a b))) else none
  | .list a => if small b && decide (a.length * b.toNat ≤ lim) then some (.own (rep a b)) else none
  | _ => none
noncomputable def opMul : List D → Option R := two fun a b => (intD b).bind fun b => mulBy b a
noncomputable def opDiv : List D → Option R := int2 fun a b => if b = 0 then none else some (.val (.int (Int.fdiv a b)))
noncomputable def opMod : List D → Option R := int2 fun a b => if b = 0 then none else some (.val (.int (Int.fmod a b)))
noncomputable def opBool (f : D → D → Option Bool) : List D → Option R
  | [a, b] => (f a b).map fun x => .val (.bool x)
  | _ => none
noncomputable def cmpD (f : Int → Int → Bool) (g : List Nat → List Nat → Bool) (a b : D) : Option R := match a with
  | .int a => (intD b).bind fun b => some (.val (.bool (f a b)))
  | .str a => (strO b).bind fun b => some (.val (.bool (g a b)))
  | _ => none
noncomputable def opCmp (f : Int → Int → Bool) (g : List Nat → List Nat → Bool) : List D → Option R := two (cmpD f g)
noncomputable def str3 (f : List Nat → List Nat → List Nat → Option R) : List D → Option R
  | [a, b, c] => (strO a).bind fun a => (strO b).bind fun b => (strO c).bind fun c => f a b c
  | _ => none
noncomputable def idxD (i : Int) : D → Option R
  | .str l => (match place i l.length with | some k => (l[k]?).map fun c => .val (.str [c]) | none => none)
  | .list l => (match place i l.length with | some k => (l[k]?).map .val | none => none)
  | .tup l => (match place i l.length with | some k => (l[k]?).map .val | none => none)
  | _ => none
noncomputable def opIndex : List D → Option R := two fun a b => (intD b).bind fun i => if small i then idxD i a else none
noncomputable def opSlice : List D → Option R
  | [.str l, a, b] => match bound a 0 l.length, bound b l.length l.length with
    | some lo, some hi => some (.val (.str (cut l lo hi)))
    | _, _ => none
  | [.list l, a, b] => match bound a 0 l.length, bound b l.length l.length with
    | some lo, some hi => some (.own (cut l lo hi))
    | _, _ => none
  | _ => none
noncomputable def opSlice3 : List D → Option R
  | [.list l, a, b, .int n] => match partD a, partD b with
    | some lo, some hi => if n ≠ 0 ∧ small n then some (.own (pick l lo hi (some n))) else none
    | _, _ => none
  | _ => none
noncomputable def opLen : List D → Option R
  | [.str l] => some (.val (.int l.length))
  | [.list l] => some (.val (.int l.length))
  | [.tup l] => some (.val (.int l.length))
  | _ => none
noncomputable def opAbs : List D → Option R
  | [.int i] => some (.val (.int i.natAbs))
  | _ => none
noncomputable def opSum : List D → Option R
  | [.list l] => (toInts l).map fun is => .val (.int is.sum)
  | _ => none
noncomputable def opNeg : List D → Option R
  | [.int i] => some (.val (.int (-i)))
  | _ => none
noncomputable def tyD : D → Option String
  | .str _ => some "str"
  | .int _ => some "int"
  | .bool _ => some "bool"
  | .list _ => some "list"
  | .tup _ => some "tuple"
  | _ => none
noncomputable def opTyOf : List D → Option R
  | [d] => (tyD d).map fun n => .val (.ty n)
  | _ => none
noncomputable def tyL : List D → Option (List String)
  | [] => some []
  | .ty a :: r => (tyL r).map (a :: ·)
  | _ :: _ => none
noncomputable def strB : D → Option Bool
  | .str _ => some true
  | .list _ => some false
  | _ => none
noncomputable def opIsInst : List D → Option R
  | [a, .ty n] => if strB a = some true then (if n = "str" then some (.val (.bool true)) else if n = "bytes" then some (.val (.bool false)) else none) else none
  | [a, .tup l] => if tyL l = some ["list", "tuple"] then (strB a).map fun b => .val (.bool (!b)) else none
  | _ => none
noncomputable def opIsSub : List D → Option R
  | [.ty n, .tup l] => if n = "str" ∧ tyL l = some ["str", "bytes"] then some (.val (.bool true)) else none
  | _ => none
noncomputable def opStr2 (f : PySem.Str → PySem.Str → R) : List D → Option R := two fun a b => (strO a).bind fun a => (strO b).bind fun b => some (f ⟨a.toArray⟩ ⟨b.toArray⟩)
noncomputable def opFind4 : List D → Option R
  | [.str a, .str b, .int i, .int j] => if small i ∧ small j then
      some (.val (.int (match Builtin.Str.occurrences ⟨a.toArray⟩ ⟨b.toArray⟩ (fromIndex a.length i) (min (fromIndex a.length j) a.length) 1 with | k :: _ => (k : Int) | [] => -1))) else none
  | _ => none
noncomputable def opReplace : List D → Option R := str3 fun a b _ => if (Builtin.Str.occurrences ⟨a.toArray⟩ ⟨b.toArray⟩ 0 a.length (a.length + 1)).isEmpty then some (.val (.str a)) else none
noncomputable def joinL (s : List Nat) : List (List Nat) → List Nat
  | [] => []
  | [a] => a
  | a :: r => a ++ s ++ joinL s r
noncomputable def opJoin : List D → Option R
  | [.str s, .list l] => match toStrs l with
    | some ls => if (joinL s ls).length ≤ lim then some (.val (.str (joinL s ls))) else none
    | none => none
  | _ => none
noncomputable def opSplit : List D → Option R
  | [.str a, .str b] => if b.length = 1 ∧ a.length + 2 ≤ lim then some (.own ((Txt.split ⟨a.toArray⟩ ⟨b.toArray⟩).map fun x => .str x.cps.toList)) else none
  | _ => none
noncomputable def special : List Nat := [40, 41, 91, 93, 123, 125, 63, 42, 43, 45, 124, 94, 36, 92, 46, 38, 126, 35, 32, 9, 10, 13, 11, 12]
noncomputable def opTranslate : List D → Option R
  | [.str [c]] => if c < 128 then some (.val (.str (if special.contains c then [92, c] else [c]))) else none
  | _ => none
noncomputable def noHit : List (List Nat) := [[], [33], [46, 45, 97], [33, 97], [97, 45, 99], [93], [33, 33], [97, 47, 98], [97, 45, 98], [91], [42], [63], [97], [98], [97, 98], [33, 97, 98], [33, 98], [33, 97, 45, 98], [46], [33, 46]]
noncomputable def opResub : List D → Option R
  | [.str a] => if noHit.contains a then some (.val (.str a)) else if a = [124, 38, 126] then some (.val (.str [92, 124, 92, 38, 92, 126])) else none
  | _ => none
noncomputable def opResub0 : List D → Option R
  | [.str a] => if noHit.contains a then some (.val (.str a)) else none
  | _ => none
noncomputable def opListOf : List D → Option R
  | [.list l] => some (.own l)
  | _ => none
noncomputable def opTupleOf : List D → Option R
  | [.list l] => some (.val (.tup l))
  | _ => none
noncomputable def ltSs : List (List Nat) → List (List Nat) → Bool
  | [], [] => false
  | [], _ :: _ => true
  | _ :: _, [] => false
  | a :: as, b :: bs => if a = b then ltSs as bs else ltL a b
noncomputable def insS (x : List Nat) : List (List Nat) → List (List Nat)
  | [] => [x]
  | y :: r => if ltL y x then y :: insS x r else x :: y :: r
noncomputable def sortS : List (List Nat) → List (List Nat)
  | [] => []
  | x :: r => insS x (sortS r)
noncomputable def opSorted : List D → Option R
  | [.list l] => match toStrs l with
    | some ls => if ls.length < 64 then some (.own ((sortS ls).map .str)) else none
    | none => none
  | _ => none
noncomputable def ltD : D → D → Option Bool
  | .str a, .str b => some (ltL a b)
  | .list a, .list b => match toStrs a, toStrs b with
    | some x, some y => some (ltSs x y)
    | _, _ => none
  | _, _ => none
noncomputable def gtD (a b : D) : Option Bool := ltD b a
noncomputable def bestGo (better : D → D → Option Bool) : D → List D → Option D
  | b, [] => some b
  | b, d :: r => match better d b with
    | some true => bestGo better d r
    | some false => bestGo better b r
    | none => none
noncomputable def opBest (better : D → D → Option Bool) : List D → Option R
  | [.list (d :: r)] => (bestGo better d r).map .val
  | [.tup (d :: r)] => (bestGo better d r).map .val
  | _ => none
noncomputable def opMax : List D → Option R
  | [.int a, .int b] => some (.val (.int (if b > a then b else a)))
  | ds => opBest gtD ds
noncomputable def opPow : List D → Option R := int2 fun a b => if 0 ≤ b ∧ b ≤ 64 ∧ 0 ≤ a ∧ a ≤ 16 then some (.val (.int (a ^ b.toNat))) else none
noncomputable def opLIndex : List D → Option R
  | [.list l, .str s] => match toStrs l with
    | some ls => if ls.contains s then some (.val (.int (ls.idxOf s))) else none
    | none => none
  | _ => none
noncomputable def opCount : List D → Option R
  | [.list l, .str s] => match toStrs l with
    | some ls => some (.val (.int (ls.count s)))
    | none => none
  | _ => none
noncomputable def opSIndex : List D → Option R
  | [.str a, .str b] => match Builtin.Str.occurrences ⟨a.toArray⟩ ⟨b.toArray⟩ 0 a.length 1 with
    | i :: _ => some (.val (.int (i : Nat)))
    | [] => none
  | _ => none
noncomputable def opFmt : List D → Option R := str3 fun a b c => strD (a ++ b ++ c)
noncomputable def opF : Op → List D → Option R
  | .add, ds => opAdd ds
  | .sub, ds => opSub ds
  | .mul, ds => opMul ds
  | .fdiv, ds => opDiv ds
  | .mod, ds => opMod ds
  | .neg, ds => opNeg ds
  | .eq, ds => opBool eqD ds
  | .ne, ds => opBool (fun a b => (eqD a b).map (!·)) ds
  | .lt, ds => opCmp (fun a b => decide (a < b)) ltL ds
  | .le, ds => opCmp (fun a b => decide (a ≤ b)) (fun a b => !ltL b a) ds
  | .gt, ds => opCmp (fun a b => decide (b < a)) (fun a b => ltL b a) ds
  | .ge, ds => opCmp (fun a b => decide (b ≤ a)) (fun a b => !ltL a b) ds
  | .is_, ds => opBool isD ds
  | .isnot, ds => opBool (fun a b => (isD a b).map (!·)) ds
  | .in_, ds => opBool inD ds
  | .notin, ds => opBool (fun a b => (inD a b).map (!·)) ds
  | .index, ds => opIndex ds
  | .slice, ds => opSlice ds
  | .slice3, ds => opSlice3 ds
  | .len, ds => opLen ds
  | .abs, ds => opAbs ds
  | .sum, ds => opSum ds
  | .tyOf, ds => opTyOf ds
  | .isInst, ds => opIsInst ds
  | .isSub, ds => opIsSub ds
  | .rfind, ds => opStr2 (fun a b => .val (.int (Txt.rfind a b))) ds
  | .find4, ds => opFind4 ds
  | .startswith, ds => opStr2 (fun a b => .val (.bool (Txt.startswith a b))) ds
  | .endswith, ds => opStr2 (fun a b => .val (.bool (Txt.endswith a b))) ds
  | .rstrip, ds => opStr2 (fun a b => .val (.str (Txt.rstripChars a b).cps.toList)) ds
  | .lstrip, ds => opStr2 (fun a b => .val (.str (Txt.lstripChars a b).cps.toList)) ds
  | .replace, ds => opReplace ds
  | .join, ds => opJoin ds
  | .split, ds => opSplit ds
  | .translate, ds => opTranslate ds
  | .resub, ds => opResub ds
  | .resub0, ds => opResub0 ds
  | .listOf, ds => opListOf ds
  | .tupleOf, ds => opTupleOf ds
  | .sorted, ds => opSorted ds
  | .fmt, ds => opFmt ds
  | .min, ds => opBest ltD ds
  | .max, ds => opMax ds
  | .pow, ds => opPow ds
  | .lindex, ds => opLIndex ds
  | .count, ds => opCount ds
  | .strIndex, ds => opSIndex ds
  | _, _ => none
noncomputable def fzAll : List R → Option (List D)
  | [] => some []
  | r :: rs => match r.fz, fzAll rs with
    | some d, some ds => some (d :: ds)
    | _, _ => none
noncomputable def truthR : Option (List R) → Option Bool
  | some [r] => r.ds.truth
  | _ => none
noncomputable def compGo (f : D → Option (Option D)) : List D → Option (List D)
  | [] => some []
  | d :: r => match f d with
    | none => none
    | some none => compGo f r
    | some (some y) => match compGo f r with
      | some ys => some (y :: ys)
      | none => none
noncomputable def flatGo (f : D → Option (List D)) : List D → Option (List D)
  | [] => some []
  | d :: r => match f d with
    | some a => (flatGo f r).map (a ++ ·)
    | none => none
noncomputable def dSlot (i : Nat) : Bool := i == 5
noncomputable def dictGet : List D → List Nat → Option D
  | [], _ => none
  | .tup [.str k, v] :: r, q => if k = q then some v else dictGet r q
  | _ :: _, _ => none
noncomputable def keyD : D → D
  | .tup [k, _] => k
  | d => d
noncomputable def itsR : Option (List R) → Option (List D)
  | some [.val (.list l)] => some l
  | _ => none
noncomputable def ownS : Slot → Option (List D)
  | .own l => some l
  | _ => none
noncomputable def fzS : Slot → Option (List D)
  | .fdic l => some l
  | _ => none
noncomputable def dicOwn (ρ : List Slot) (i : Nat) : Option (List D) := if dSlot i then (ρ[i]?).bind ownS else none
noncomputable def dicFz (ρ : List Slot) (i : Nat) : Option (List D) := (ρ[i]?).bind fzS
noncomputable def dicAt (ρ : List Slot) (i : Nat) : Option (List D) := (dicOwn ρ i).or (dicFz ρ i)
noncomputable def strV : Option (List R) → Option (List Nat)
  | some [.val (.str k)] => some k
  | _ => none
noncomputable def keyO : Option D → Option (List Nat)
  | some (.str k) => some k
  | _ => none
noncomputable def turnD (c e : Option (List R)) : Option (Option D) := match truthR c with
  | some true => (match e with
    | some [r] => r.fz.map some
    | _ => none)
  | some false => some none
  | none => none
noncomputable def upTo (n : Nat) (a b : Int) : List Int := (List.range n).map fun (k : Nat) => a + b * (k : Int)
noncomputable def rangeL (a b : Int) : List D := (upTo (b - a).toNat a 1).map .int
noncomputable def rangeDown (a b : Int) : List D := (upTo (a - b).toNat a (-1)).map .int
noncomputable def opRange : List D → Option (List D)
  | [.int n] => if small n && decide (n ≤ 1000000) then some (rangeL 0 n) else none
  | [.int a, .int n] => if small a && small n && decide (n - a ≤ 1000000) then some (rangeL a n) else none
  | [.int a, .int n, .int s] => if s = -1 ∧ small a ∧ small n ∧ a - n ≤ 1000000 then some (rangeDown a n) else none
  | _ => none
noncomputable def itemsOf : D → Option (List D)
  | .list l => some l
  | .tup l => some l
  | .str l => some (l.map fun c => .str [c])
  | _ => none
noncomputable def enumOf : D → Option (List D)
  | .list l => some l
  | .str l => some (l.map fun c => .str [c])
  | _ => none
noncomputable def enumL (k : Int) : List D → List D
  | [] => []
  | d :: r => .tup [.int k, d] :: enumL (k + 1) r
noncomputable def allSome {α : Type} : List (Option α) → Option (List α)
  | [] => some []
  | some a :: r => (allSome r).map (a :: ·)
  | none :: _ => none
section
variable (cf : CfT)
noncomputable def ev : X → List Slot → Option (List R)
  | .const d, _ => some [.val d]
  | .var i, ρ => match ρ[i]? with
    | some (.val d) => some [.val d]
    | some (.own l) => if dSlot i then none else some [.bor l]
    | _ => none
  | .op o a, ρ => match ev a ρ with
    | some rs => (opF o (rs.map R.ds)).map fun r => [r]
    | none => none
  | .nil, _ => some []
  | .cons a r, ρ => match ev a ρ with
    | some [x] => (ev r ρ).map fun xs => x :: xs
    | _ => none
  | .star a, ρ => match ev a ρ with
    | some [x] => (match x.fz with
      | some (.list l) => some (l.map .val)
      | some (.tup l) => some (l.map .val)
      | _ => none)
    | _ => none
  | .and a b, ρ => match ev a ρ with
    | some [x] => (match x.ds.truth with
      | some true => ev b ρ
      | some false => some [x]
      | none => none)
    | _ => none
  | .or a b, ρ => match ev a ρ with
    | some [x] => (match x.ds.truth with
      | some false => ev b ρ
      | some true => some [x]
      | none => none)
    | _ => none
  | .not a, ρ => match ev a ρ with
    | some [x] => x.ds.truth.map fun b => [.val (.bool (!b))]
    | _ => none
  | .ite c t e, ρ => match truthR (ev c ρ) with
    | some true => ev t ρ
    | some false => ev e ρ
    | none => none
  | .call f a, ρ => match ev a ρ with
    | some rs => (match fzAll rs with
      | some ds => (cf f ds).map fun d => [.val d]
      | none => none)
    | none => none
  | .tup a, ρ => match ev a ρ with
    | some rs => (match fzAll rs with
      | some ds => if ds.length ≤ lim then some [.val (.tup ds)] else none
      | none => none)
    | none => none
  | .list a, ρ => match ev a ρ with
    | some rs => (match fzAll rs with
      | some ds => if ds.length ≤ lim then some [.own ds] else none
      | none => none)
    | none => none
  | .comp i it c e, ρ => match ev it ρ with
    | some [.val (.list items)] => (compGo (fun d => turnD (ev c (ρ.set i (.val d))) (ev e (ρ.set i (.val d)))) items).map fun l => [.own l]
    | _ => none
  | .comp2 i j it c e, ρ => match ev it ρ with
    | some [.val (.list items)] => (compGo (fun d => match d with
        | .tup [a, b] => turnD (ev c ((ρ.set i (.val a)).set j (.val b))) (ev e ((ρ.set i (.val a)).set j (.val b)))
        | _ => none) items).map fun l => [.own l]
    | _ => none
  | .comp3 i it j jt e, ρ => match itsR (ev it ρ) with
    | some items => (match flatGo (fun d => match itsR (ev jt (ρ.set i (.val d))) with
        | some its => compGo (fun d' => turnD (some [.val (.bool true)]) (ev e ((ρ.set i (.val d)).set j (.val d')))) its
        | none => none) items with
      | some l => if l.length ≤ lim then some [.own l] else none
      | none => none)
    | none => none
  | .mapF f a, ρ => match ev a ρ with
    | some [x] => (match x.ds with
      | .list items => (allSome (items.map fun d => cf f [d])).map fun l => [.val (.tup l)]
      | .tup items => (allSome (items.map fun d => cf f [d])).map fun l => [.val (.tup l)]
      | _ => none)
    | _ => none
  | .dNot i a, ρ => match dicAt ρ i, strV (ev a ρ) with
    | some l, some k => some [.val (.bool (dictGet l k).isNone)]
    | _, _ => none
  | .dGet i a, ρ => match dicAt ρ i, strV (ev a ρ) with
    | some l, some k => (dictGet l k).map fun d => [.val d]
    | _, _ => none
  | .dKeys i, ρ => match dicFz ρ i with
    | some l => some [.val (.list (l.map keyD))]
    | none => none
  | .seqI a, ρ => match ev a ρ with
    | some [x] => (match x.fz with
      | some d => (itemsOf d).map fun l => [.val (.list l)]
      | none => none)
    | _ => none
  | .rangeI a, ρ => match ev a ρ with
    | some rs => (opRange (rs.map R.ds)).map fun l => [.val (.list l)]
    | none => none
  | .enumI a, ρ => match ev a ρ with
    | some [x] => (match x.fz with
      | some d => (enumOf d).map fun l => [.val (.list (enumL 0 l))]
      | none => none)
    | _ => none
  | .setI i it e, ρ => match ev it ρ with
    | some [.val (.list items)] => (match compGo (fun d => turnD (some [.val (.bool true)]) (ev e (ρ.set i (.val d)))) items with
      | some (.bool b :: r) => if r.all (fun d => match d with | .bool b' => b' == b | _ => false) then some [.val (.bool b)] else none
      | _ => none)
    | _ => none
noncomputable def ev1 (x : X) (ρ : List Slot) : Option D := match ev cf x ρ with
  | some [r] => r.fz
  | _ => none
noncomputable def evT (x : X) (ρ : List Slot) : Option Bool := truthR (ev cf x ρ)
noncomputable def evI (x : X) (ρ : List Slot) : Option (List D) := match ev cf x ρ with
  | some [.val (.list l)] => some l
  | _ => none
noncomputable def whileGo (c : List Slot → Option Bool) (b : List Slot → Option (List Slot × Out)) : Nat → List Slot → Option (List Slot × Out)
  | 0, _ => none
  | n + 1, ρ => match c ρ with
    | none => none
    | some false => some (ρ, .next)
    | some true => match b ρ with
      | none => none
      | some (ρ', .next) => whileGo c b n ρ'
      | some (ρ', .cont) => whileGo c b n ρ'
      | some (ρ', .brk) => some (ρ', .next)
      | some (ρ', .ret d) => some (ρ', .ret d)
noncomputable def forGo (st : D → List Slot → Option (List Slot)) (b : List Slot → Option (List Slot × Out)) : List D → List Slot → Option (List Slot × Out)
  | [], ρ => some (ρ, .next)
  | d :: r, ρ => match st d ρ with
    | none => none
    | some ρ₁ => match b ρ₁ with
      | none => none
      | some (ρ', .next) => forGo st b r ρ'
      | some (ρ', .cont) => forGo st b r ρ'
      | some (ρ', .brk) => some (ρ', .next)
      | some (ρ', .ret d) => some (ρ', .ret d)
noncomputable def put1 (i : Nat) (d : D) (ρ : List Slot) : Option (List Slot) := some (ρ.set i (.val d))
noncomputable def put2 (i j : Nat) (d : D) (ρ : List Slot) : Option (List Slot) := match d with
  | .tup [a, b] => some ((ρ.set i (.val a)).set j (.val b))
  | _ => none
noncomputable def setAll : List Slot → List Nat → List D → List Slot
  | ρ, i :: is, d :: ds => setAll (ρ.set i (.val d)) is ds
  | ρ, _, _ => ρ
noncomputable def putN (is : List Nat) (d : D) (ρ : List Slot) : Option (List Slot) := match d with
  | .tup l => if l.length = is.length then some (setAll ρ is l) else none
  | _ => none
noncomputable def ownAt (ρ : List Slot) (i : Nat) : Option (List D) := match ρ[i]? with
  | some (.own l) => if dSlot i then none else some l
  | _ => none
noncomputable def noApp (i : Nat) (ρ : List Slot) : Bool := ρ.all fun s => match s with | .app j => j != i | _ => true
noncomputable def wf : Nat := 100000
noncomputable def ex : S → List Slot → Option (List Slot × Out)
  | .skip, ρ => some (ρ, .next)
  | .seq a b, ρ => match ex a ρ with
    | some (ρ', .next) => ex b ρ'
    | some (ρ', o) => some (ρ', o)
    | none => none
  | .fz i, ρ => match ownAt ρ i with
    | some l => some (ρ.set i (.val (.list l)), .next)
    | none => some (ρ, .next)
  | .assign i x, ρ => (ev1 cf x ρ).map fun d => (ρ.set i (.val d), .next)
  | .assignO i x, ρ => if noApp i ρ then (match ev cf x ρ with
    | some [.own l] => if dSlot i then none else some (ρ.set i (.own l), .next)
    | some [.val d] => some (ρ.set i (.val d), .next)
    | _ => none) else none
  | .assign1 i x, ρ => match ev1 cf x ρ with
    | some d => some (ρ.set i (.val d), .next)
    | none => none
  | .assign2 i j x, ρ => match ev1 cf x ρ with
    | some (.tup [a, b]) => some ((ρ.set i (.val a)).set j (.val b), .next)
    | _ => none
  | .assign3 i j k x, ρ => match ev1 cf x ρ with
    | some (.tup [a, b, c]) => some (((ρ.set i (.val a)).set j (.val b)).set k (.val c), .next)
    | _ => none
  | .alias i j, ρ => match ownAt ρ j with
    | some _ => some (ρ.set i (.app j), .next)
    | none => none
  | .append i x, ρ => match ev1 cf x ρ, ownAt ρ i with
    | some d, some l => if l.length < lim then some (ρ.set i (.own (l ++ [d])), .next) else none
    | _, _ => none
  | .appendVia i j x, ρ => match ρ[i]? with
    | some (.app j') => if j' = j then (match ev1 cf x ρ, ownAt ρ j with
      | some d, some l => if l.length < lim then some (ρ.set j (.own (l ++ [d])), .next) else none
      | _, _ => none) else none
    | _ => none
  | .aug i x, ρ => match ρ[i]?, ev1 cf x ρ with
    | some (.val (.str a)), some (.str b) => if a.length + b.length ≤ lim then some (ρ.set i (.val (.str (a ++ b))), .next) else none
    | _, _ => none
  | .extend i x, ρ => match ev1 cf x ρ, ownAt ρ i with
    | some (.list m), some l => if l.length + m.length ≤ lim then some (ρ.set i (.own (l ++ m)), .next) else none
    | _, _ => none
  | .pop i, ρ => match ownAt ρ i with
    | some l => (match l.getLast? with
      | some (.str _) => some (ρ.set i (.own l.dropLast), .next)
      | _ => none)
    | none => none
  | .setItem i k x, ρ => match ev1 cf x ρ, ev1 cf k ρ, ownAt ρ i with
    | some d, some (.int n), some l => if small n then (match place n l.length with
      | some p => some (ρ.set i (.own (l.set p d)), .next)
      | none => none) else none
    | _, _, _ => none
  | .augItem i k x, ρ => match ev1 cf k ρ, ev1 cf x ρ, ownAt ρ i with
    | some (.int n), some (.str y), some l => if small n then (match place n l.length with
      | some p => (match l[p]? with
        | some (.str z) => if z.length + y.length ≤ lim then some (ρ.set i (.own (l.set p (.str (z ++ y)))), .next) else none
        | _ => none)
      | none => none) else none
    | _, _, _ => none
  | .delItem i k, ρ => match ev1 cf k ρ, ownAt ρ i with
    | some (.int n), some l => if 0 ≤ n ∧ n < l.length then some (ρ.set i (.own (l.eraseIdx n.toNat)), .next) else none
    | _, _ => none
  | .ite c a b, ρ => match evT cf c ρ with
    | some true => ex a ρ
    | some false => ex b ρ
    | none => none
  | .while c b, ρ => whileGo (evT cf c) (ex b) wf ρ
  | .forE i it b, ρ => match evI cf it ρ with
    | some items => forGo (put1 i) (ex b) items ρ
    | none => none
  | .forE2 i j it b, ρ => match evI cf it ρ with
    | some items => forGo (put2 i j) (ex b) items ρ
    | none => none
  | .forN is it b, ρ => match evI cf it ρ with
    | some items => forGo (putN is) (ex b) items ρ
    | none => none
  | .ret x, ρ => (ev1 cf x ρ).map fun d => (ρ, .ret d)
  | .brk, ρ => some (ρ, .brk)
  | .cont, ρ => some (ρ, .cont)
  | .assert c, ρ => match evT cf c ρ with
    | some true => some (ρ, .next)
    | _ => none
  | .try_ b, ρ => ex b ρ
  | .tryV f a b, ρ => match ev cf a ρ with
    | some rs => (match fzAll rs with
      | some [.list []] => if f = 13 then ex b ρ else none
      | some ds => (cf f ds).map fun _ => (ρ, .next)
      | none => none)
    | none => none
  | .dNew i, ρ => if dSlot i && noApp i ρ then some (ρ.set i (.own []), .next) else none
  | .dSet i k x, ρ => match dicOwn ρ i, keyO (ev1 cf k ρ), ev1 cf x ρ with
    | some l, some q, some d => if (dictGet l q).isNone ∧ l.length < lim then some (ρ.set i (.own (l ++ [.tup [.str q, d]])), .next) else none
    | _, _, _ => none
  | .dFz i, ρ => match dicOwn ρ i with
    | some l => some (ρ.set i (.fdic l), .next)
    | none => none
theorem zaE {ρ : List Slot} {d} : ev cf (.const d) ρ = (some [.val d]) := rfl
theorem zbl {ρ : List Slot} {i} : ev cf (.var i) ρ = (match ρ[i]? with
    | some (.val d) => some [.val d]
    | some (.own l) => if dSlot i then none else some [.bor l]
    | _ => none) := rfl
theorem zcb {ρ : List Slot} {o a} : ev cf (.op o a) ρ = (match ev cf a ρ with
    | some rs => (opF o (rs.map R.ds)).map fun r => [r]
    | none => none) := rfl
theorem zbE {ρ : List Slot} : ev cf .nil ρ = (some []) := rfl
theorem za2 {ρ : List Slot} {a r} : ev cf (.cons a r) ρ = (match ev cf a ρ with
    | some [x] => (ev cf r ρ).map fun xs => x :: xs
    | _ => none) := rfl
theorem zbh {ρ : List Slot} {a} : ev cf (.star a) ρ = (match ev cf a ρ with
    | some [x] => (match x.fz with
      | some (.list l) => some (l.map .val)
      | some (.tup l) => some (l.map .val)
      | _ => none)
    | _ => none) := rfl
theorem za4 {ρ : List Slot} {a b} : ev cf (.and a b) ρ = (match ev cf a ρ with
    | some [x] => (match x.ds.truth with
      | some true => ev cf b ρ
      | some false => some [x]
      | none => none)
    | _ => none) := rfl
theorem zbD {ρ : List Slot} {a b} : ev cf (.or a b) ρ = (match ev cf a ρ with
    | some [x] => (match x.ds.truth with
      | some false => ev cf b ρ
      | some true => some [x]
      | none => none)
    | _ => none) := rfl
theorem zbc {ρ : List Slot} {a} : ev cf (.not a) ρ = (match ev cf a ρ with
    | some [x] => x.ds.truth.map fun b => [.val (.bool (!b))]
    | _ => none) := rfl
theorem zbd {ρ : List Slot} {c t e} : ev cf (.ite c t e) ρ = (match truthR (ev cf c ρ) with
    | some true => ev cf t ρ
    | some false => ev cf e ρ
    | none => none) := rfl
theorem zbb {ρ : List Slot} {f a} : ev cf (.call f a) ρ = (match ev cf a ρ with
    | some rs => (match fzAll rs with
      | some ds => (cf f ds).map fun d => [.val d]
      | none => none)
    | none => none) := rfl
theorem zbC {ρ : List Slot} {a} : ev cf (.tup a) ρ = (match ev cf a ρ with
    | some rs => (match fzAll rs with
      | some ds => if ds.length ≤ lim then some [.val (.tup ds)] else none
      | none => none)
    | none => none) := rfl
theorem zbi {ρ : List Slot} {a} : ev cf (.list a) ρ = (match ev cf a ρ with
    | some rs => (match fzAll rs with
      | some ds => if ds.length ≤ lim then some [.own ds] else none
      | none => none)
    | none => none) := rfl
theorem zba {ρ : List Slot} {i it c e} : ev cf (.comp i it c e) ρ = (match ev cf it ρ with
    | some [.val (.list items)] => (compGo (fun d => turnD (ev cf c (ρ.set i (.val d))) (ev cf e (ρ.set i (.val d)))) items).map fun l => [.own l]
    | _ => none) := rfl
theorem za7 {ρ : List Slot} {i j it c e} : ev cf (.comp2 i j it c e) ρ = (match ev cf it ρ with
    | some [.val (.list items)] => (compGo (fun d => match d with
        | .tup [a, b] => turnD (ev cf c ((ρ.set i (.val a)).set j (.val b))) (ev cf e ((ρ.set i (.val a)).set j (.val b)))
        | _ => none) items).map fun l => [.own l]
    | _ => none) := rfl
theorem za6 {ρ : List Slot} {i it j jt e} : ev cf (.comp3 i it j jt e) ρ = (match itsR (ev cf it ρ) with
    | some items => (match flatGo (fun d => match itsR (ev cf jt (ρ.set i (.val d))) with
        | some its => compGo (fun d' => turnD (some [.val (.bool true)]) (ev cf e ((ρ.set i (.val d)).set j (.val d')))) its
        | none => none) items with
      | some l => if l.length ≤ lim then some [.own l] else none
      | none => none)
    | none => none) := rfl
theorem za1 {ρ : List Slot} {f a} : ev cf (.mapF f a) ρ = (match ev cf a ρ with
    | some [x] => (match x.ds with
      | .list items => (allSome (items.map fun d => cf f [d])).map fun l => [.val (.tup l)]
      | .tup items => (allSome (items.map fun d => cf f [d])).map fun l => [.val (.tup l)]
      | _ => none)
    | _ => none) := rfl
theorem zhX {ρ : List Slot} {i a} : ev cf (.dNot i a) ρ = (match dicAt ρ i, strV (ev cf a ρ) with
    | some l, some k => some [.val (.bool (dictGet l k).isNone)]
    | _, _ => none) := rfl
theorem zhY {ρ : List Slot} {i a} : ev cf (.dGet i a) ρ = (match dicAt ρ i, strV (ev cf a ρ) with
    | some l, some k => (dictGet l k).map fun d => [.val d]
    | _, _ => none) := rfl
theorem zgA {ρ : List Slot} {i} : ev cf (.dKeys i) ρ = (match dicFz ρ i with
    | some l => some [.val (.list (l.map keyD))]
    | none => none) := rfl
theorem za9 {ρ : List Slot} {a} : ev cf (.seqI a) ρ = (match ev cf a ρ with
    | some [x] => (match x.fz with
      | some d => (itemsOf d).map fun l => [.val (.list l)]
      | none => none)
    | _ => none) := rfl
theorem zaD {ρ : List Slot} {a} : ev cf (.rangeI a) ρ = (match ev cf a ρ with
    | some rs => (opRange (rs.map R.ds)).map fun l => [.val (.list l)]
    | none => none) := rfl
theorem zaV {ρ : List Slot} {a} : ev cf (.enumI a) ρ = (match ev cf a ρ with
    | some [x] => (match x.fz with
      | some d => (enumOf d).map fun l => [.val (.list (enumL 0 l))]
      | none => none)
    | _ => none) := rfl
theorem za8 {ρ : List Slot} {i it e} : ev cf (.setI i it e) ρ = (match ev cf it ρ with
    | some [.val (.list items)] => (match compGo (fun d => turnD (some [.val (.bool true)]) (ev cf e (ρ.set i (.val d)))) items with
      | some (.bool b :: r) => if r.all (fun d => match d with | .bool b' => b' == b | _ => false) then some [.val (.bool b)] else none
      | _ => none)
    | _ => none) := rfl
theorem zhT {ρ : List Slot} : ex cf .skip ρ = (some (ρ, .next)) := rfl
theorem zkd {ρ : List Slot} {a b} : ex cf (.seq a b) ρ = (match ex cf a ρ with
    | some (ρ', .next) => ex cf b ρ'
    | some (ρ', o) => some (ρ', o)
    | none => none) := rfl
theorem exq_fz {ρ : List Slot} {i} : ex cf (.fz i) ρ = (match ownAt ρ i with
    | some l => some (ρ.set i (.val (.list l)), .next)
    | none => some (ρ, .next)) := rfl
theorem zcG {ρ : List Slot} {i x} : ex cf (.assign i x) ρ = ((ev1 cf x ρ).map fun d => (ρ.set i (.val d), .next)) := rfl
theorem zcV {ρ : List Slot} {i x} : ex cf (.assignO i x) ρ = (if noApp i ρ then (match ev cf x ρ with
    | some [.own l] => if dSlot i then none else some (ρ.set i (.own l), .next)
    | some [.val d] => some (ρ.set i (.val d), .next)
    | _ => none) else none) := rfl
theorem zeg {ρ : List Slot} {i j x} : ex cf (.assign2 i j x) ρ = (match ev1 cf x ρ with
    | some (.tup [a, b]) => some ((ρ.set i (.val a)).set j (.val b), .next)
    | _ => none) := rfl
theorem zgz {ρ : List Slot} {i j} : ex cf (.alias i j) ρ = (match ownAt ρ j with
    | some _ => some (ρ.set i (.app j), .next)
    | none => none) := rfl
theorem ze1 {ρ : List Slot} {i x} : ex cf (.append i x) ρ = (match ev1 cf x ρ, ownAt ρ i with
    | some d, some l => if l.length < lim then some (ρ.set i (.own (l ++ [d])), .next) else none
    | _, _ => none) := rfl
theorem zdg {ρ : List Slot} {i j x} : ex cf (.appendVia i j x) ρ = (match ρ[i]? with
    | some (.app j') => if j' = j then (match ev1 cf x ρ, ownAt ρ j with
      | some d, some l => if l.length < lim then some (ρ.set j (.own (l ++ [d])), .next) else none
      | _, _ => none) else none
    | _ => none) := rfl
theorem zkf {ρ : List Slot} {c a b} : ex cf (.ite c a b) ρ = (match evT cf c ρ with
    | some true => ex cf a ρ
    | some false => ex cf b ρ
    | none => none) := rfl
theorem zgx {ρ : List Slot} {c b} : ex cf (.while c b) ρ = (whileGo (evT cf c) (ex cf b) wf ρ) := rfl
theorem zhU {ρ : List Slot} {i it b} : ex cf (.forE i it b) ρ = (match evI cf it ρ with
    | some items => forGo (put1 i) (ex cf b) items ρ
    | none => none) := rfl
theorem zgy {ρ : List Slot} {i j it b} : ex cf (.forE2 i j it b) ρ = (match evI cf it ρ with
    | some items => forGo (put2 i j) (ex cf b) items ρ
    | none => none) := rfl
theorem zke {ρ : List Slot} {x} : ex cf (.ret x) ρ = ((ev1 cf x ρ).map fun d => (ρ, .ret d)) := rfl
theorem zkh {ρ : List Slot} : ex cf .brk ρ = (some (ρ, .brk)) := rfl
theorem ze0 {ρ : List Slot} {c} : ex cf (.assert c) ρ = (match evT cf c ρ with
    | some true => some (ρ, .next)
    | _ => none) := rfl
theorem zhS {ρ : List Slot} {b} : ex cf (.try_ b) ρ = (ex cf b ρ) := rfl
theorem zhW {ρ : List Slot} {i} : ex cf (.dNew i) ρ = (if dSlot i && noApp i ρ then some (ρ.set i (.own []), .next) else none) := rfl
theorem zhV {ρ : List Slot} {i k x} : ex cf (.dSet i k x) ρ = (match dicOwn ρ i, keyO (ev1 cf k ρ), ev1 cf x ρ with
    | some l, some q, some d => if (dictGet l q).isNone ∧ l.length < lim then some (ρ.set i (.own (l ++ [.tup [.str q, d]])), .next) else none
    | _, _, _ => none) := rfl
theorem zkg {ρ : List Slot} {i} : ex cf (.dFz i) ρ = (match dicOwn ρ i with
    | some l => some (ρ.set i (.fdic l), .next)
    | none => none) := rfl
end
set_option genInjectivity false in
structure Fn where
  np : Nat
  va : Bool
  ns : Nat
  body : S
noncomputable def bindD (f : Fn) (args : List D) : Option (List Slot) :=
  if f.va then (if f.np ≤ args.length ∧ args.length ≤ lim then some (((args.take f.np).map .val ++ [.val (.tup (args.drop f.np))]) ++ List.replicate (f.ns - f.np - 1) .unset) else none)
  else if args.length = f.np then some (args.map .val ++ List.replicate (f.ns - f.np) .unset) else none
noncomputable def callF (fns : Nat → Option Fn) : Nat → Nat → List D → Option D
  | 0, _, _ => none
  | n + 1, f, args => match fns f with
    | none => none
    | some fn => match bindD fn args with
      | none => none
      | some ρ => match ex (callF fns n) fn.body ρ with
        | some (_, .ret d) => some d
        | some (_, .next) => some .none
        | _ => none
end Mine
end
section
open PySem PySem.Calls PyProof.Rows
namespace Mine
set_option genInjectivity false in
structure Cx where
  prog : Program
  w : World
  h0 : Heap
  X : Addr → Prop
  XI : Heap → Prop
  T : Nat → Addr
  mg : Str → Option Value
  mb : Str → Option Value
  fa : Nat → Addr
section
variable (T : NAd) (F : AP) (h : Heap)
mutual
inductive Rep : Value → D → Prop
  | none : Rep .none .none
  | bool (b : Bool) : Rep (.bool b) (.bool b)
  | int (i : Int) (t : Tok) : Rep (.int i t) (.int i)
  | str {l : List Nat} (t : Tok) : (∀ c ∈ l, c < 0x110000) → l.length ≤ lim → Rep (.str ⟨l.toArray⟩ t) (.str l)
  | ty (n : String) : Rep (.type n) (.ty n)
  | list {a : Addr} {vs : List Value} {n : Nat} {ds : List D} : F a → h.get? a = some (lobj vs.toArray n) → vs.length ≤ lim → RepL vs ds → Rep (.ref a) (.list ds)
  | tup {a : Addr} {vs : List Value} {n : Nat} {ds : List D} : F a → h.get? a = some (tobj vs.toArray n) → vs.length ≤ lim → RepL vs ds → Rep (.ref a) (.tup ds)
  | tok {k : Nat} : (k < 2 → F (T k) ∧ ∃ n t, h.get? (T k) = some (lobj #[.str ⟨(tokC k).toArray⟩ t] n)) → Rep (.ref (T k)) (.tok k)
inductive RepL : List Value → List D → Prop
  | nil : RepL [] []
  | cons {v : Value} {vs : List Value} {d : D} {ds : List D} : Rep v d → RepL vs ds → RepL (v :: vs) (d :: ds)
end
end
section
variable {T : NAd} {F F' : AP} {h h' : Heap}
theorem Rep.mono (hF : ∀ a, F a → F' a) (hk : ∀ a o, F a → h.get? a = some o → h'.get? a = some o) {v : Value} {d : D} (r : Rep T F h v d) : Rep T F' h' v d :=
  Rep.rec (motive_1 := fun v d _ => Rep T F' h' v d) (motive_2 := fun vs ds _ => RepL T F' h' vs ds) .none .bool .int (fun t q z => .str t q z) .ty (fun f g z _ i => .list (hF _ f) (hk _ _ f g) z i) (fun f g z _ i => .tup (hF _ f) (hk _ _ f g) z i) (fun f => .tok fun h2 => let ⟨f, n, t, g⟩ := f h2; ⟨hF _ f, n, t, hk _ _ f g⟩) .nil (fun _ _ a b => .cons a b) r
theorem RepL.mono (hF : ∀ a, F a → F' a) (hk : ∀ a o, F a → h.get? a = some o → h'.get? a = some o) {vs : List Value} {ds : List D} (r : RepL T F h vs ds) : RepL T F' h' vs ds :=
  RepL.rec (motive_1 := fun v d _ => Rep T F' h' v d) (motive_2 := fun vs ds _ => RepL T F' h' vs ds) .none .bool .int (fun t q z => .str t q z) .ty (fun f g z _ i => .list (hF _ f) (hk _ _ f g) z i) (fun f g z _ i => .tup (hF _ f) (hk _ _ f g) z i) (fun f => .tok fun h2 => let ⟨f, n, t, g⟩ := f h2; ⟨hF _ f, n, t, hk _ _ f g⟩) .nil (fun _ _ a b => .cons a b) r
theorem RepL.ind {motive : List Value → List D → Prop} (hn : motive [] []) (hc : ∀ {v vs d ds}, Rep T F h v d → RepL T F h vs ds → motive vs ds → motive (v :: vs) (d :: ds)) {vs : List Value} {ds : List D} (q : RepL T F h vs ds) : motive vs ds :=
  RepL.rec (motive_1 := fun _ _ _ => True) (motive_2 := fun vs ds _ => motive vs ds) trivial (fun _ => trivial) (fun _ _ => trivial) (fun _ _ _ => trivial) (fun _ => trivial) (fun _ _ _ _ _ => trivial) (fun _ _ _ _ _ => trivial) (fun _ => trivial) hn (fun a r _ i => hc a r i) q
theorem RepL.length {vs : List Value} {ds : List D} (q : RepL T F h vs ds) : vs.length = ds.length :=
  q.ind (motive := fun vs ds => vs.length = ds.length) rfl fun _ _ i => congrArg Nat.succ i
theorem RepL.append {vs ws : List Value} {ds es : List D} (q : RepL T F h vs ds) (k : RepL T F h ws es) : RepL T F h (vs ++ ws) (ds ++ es) :=
  q.ind (motive := fun vs ds => RepL T F h (vs ++ ws) (ds ++ es)) k fun a _ i => .cons a i
theorem RepL.get {vs : List Value} {ds : List D} (q : RepL T F h vs ds) : ∀ {k : Nat} {d : D}, ds[k]? = some d → ∃ v, vs[k]? = some v ∧ Rep T F h v d :=
  q.ind (motive := fun vs ds => ∀ {k : Nat} {d : D}, ds[k]? = some d → ∃ v, vs[k]? = some v ∧ Rep T F h v d) (fun e => nomatch e) fun a _ i => by
    intro k d e
    cases k with
    | zero => cases e; exact ⟨_, rfl, a⟩
    | succ k => exact i (k := k) e
theorem RepL.getV {vs : List Value} {ds : List D} (r : RepL T F h vs ds) {k : Nat} {v : Value} (e : vs[k]? = some v) : ∃ d, ds[k]? = some d ∧ Rep T F h v d := by
  have hk : k < vs.length := by
    rcases Nat.lt_or_ge k vs.length with q | q
    · exact q
    · rw [List.getElem?_eq_none q] at e; cases e
  have hk' : k < ds.length := r.length ▸ hk
  obtain ⟨v', e', rv⟩ := r.get (List.getElem?_eq_getElem hk')
  rw [e] at e'; cases e'
  exact ⟨_, List.getElem?_eq_getElem hk', rv⟩
theorem RepL.reverse {vs : List Value} {ds : List D} (q : RepL T F h vs ds) : RepL T F h vs.reverse ds.reverse :=
  q.ind (motive := fun vs ds => RepL T F h vs.reverse ds.reverse) .nil fun a _ i => by rw [List.reverse_cons, List.reverse_cons]; exact i.append (.cons a .nil)
theorem RepL.pickAt (is : List Nat) {vs : List Value} {ds : List D} (r : RepL T F h vs ds) : RepL T F h (is.filterMap (vs[·]?)) (is.filterMap (ds[·]?)) := by
  induction is with
  | nil => exact .nil
  | cons k is ih =>
    rcases Nat.lt_or_ge k ds.length with q | q
    · obtain ⟨v, e, rv⟩ := r.get (List.getElem?_eq_getElem q)
      rw [List.filterMap_cons_some e, List.filterMap_cons_some (List.getElem?_eq_getElem q)]
      exact .cons rv ih
    · rw [List.filterMap_cons_none (by simpa using r.length ▸ q), List.filterMap_cons_none (by simpa using q)]
      exact ih
theorem RepL.rep (n : Nat) {vs : List Value} {ds : List D} (r : RepL T F h vs ds) : RepL T F h (List.replicate n vs).flatten (List.replicate n ds).flatten := by
  induction n with
  | zero => simp; exact .nil
  | succ n ih => simp only [List.replicate_succ, List.flatten_cons]; exact r.append ih
theorem Rep.reads {v : Value} {d : D} {n : Nat} (r : Rep T F h v d) (q : d.ok n = true) : ∃ as, Reads h v d.toPy as := by
  have nx : ∀ {d : D} {n : Nat}, d.ok n = true → ∃ k, n = k + 1 := fun {d n} q => by
    cases n with
    | zero => unfold D.ok at q; cases q
    | succ k => exact ⟨k, rfl⟩
  refine Rep.rec (motive_1 := fun v d _ => ∀ n, d.ok n = true → ∃ as, Reads h v d.toPy as) (motive_2 := fun vs ds _ => ∀ n, D.oks n ds = true → ∃ as, ReadsAll h vs (D.toPys ds) as) (fun _ _ => ⟨[], .none⟩) (fun b _ _ => ⟨[], .bool b⟩) (fun i t _ _ => ⟨[], .int i t⟩) (fun t _ _ _ _ => ⟨[], .str _ t⟩) (fun m n q => ?_) (fun f g _ _ ih n q => ?_) (fun f g _ _ ih n q => ?_) (fun f n q => ?_) (fun _ _ => ⟨[], .nil⟩) (fun _ _ i1 i2 n q => ?_) r n q
  · obtain ⟨k, rfl⟩ := nx q; cases q
  · obtain ⟨k, rfl⟩ := nx q
    obtain ⟨as, x⟩ := ih k q
    exact ⟨_, Reads.list g rfl rfl (by rw [List.toList_toArray]; exact x)⟩
  · obtain ⟨k, rfl⟩ := nx q
    obtain ⟨as, x⟩ := ih k q
    exact ⟨_, Reads.tuple g rfl rfl (by rw [List.toList_toArray]; exact x)⟩
  · obtain ⟨j, rfl⟩ := nx q
    obtain ⟨_, _, t, g⟩ := f (of_decide_eq_true (Bool.and_eq_true_iff.mp q).2)
    exact ⟨_, Reads.list g rfl rfl (.cons (.str _ t) .nil)⟩
  · have q' := Bool.and_eq_true_iff.mp q
    obtain ⟨as, x⟩ := i1 n q'.1
    obtain ⟨bs, y⟩ := i2 n q'.2
    exact ⟨as ++ bs, .cons x y⟩
theorem RepL.reads {vs : List Value} {ds : List D} {n : Nat} (r : RepL T F h vs ds) (q : D.oks n ds = true) : ∃ as, ReadsAll h vs (D.toPys ds) as :=
  r.ind (motive := fun vs ds => D.oks n ds = true → ∃ as, ReadsAll h vs (D.toPys ds) as) (fun _ => ⟨[], .nil⟩) (fun a _ i q => by
    have q' := Bool.and_eq_true_iff.mp q
    obtain ⟨as, x⟩ := a.reads q'.1
    obtain ⟨bs, y⟩ := i q'.2
    exact ⟨as ++ bs, .cons x y⟩) q
end
section
variable {T : NAd} {F F' : AP} {h h' : Heap}
theorem zhx {l : List Nat} (q : ∀ c ∈ l, c < 0x110000) : PyData.strOk ⟨l.toArray⟩ = true := by
  unfold PyData.strOk
  simpa [List.all_eq_true] using q
theorem Rep.lay {v : Value} {d : D} {n : Nat} (r : Rep T F h v d) (q : d.ok n = true) : d.toPy.canLay0 = true ∧ d.toPy.depth ≤ n := by
  have nx : ∀ {d : D} {n : Nat}, d.ok n = true → ∃ k, n = k + 1 := fun {d n} q => by
    cases n with
    | zero => unfold D.ok at q; cases q
    | succ k => exact ⟨k, rfl⟩
  refine Rep.rec (motive_1 := fun v d _ => ∀ n, d.ok n = true → d.toPy.canLay0 = true ∧ d.toPy.depth ≤ n) (motive_2 := fun vs ds _ => ∀ n, D.oks n ds = true → PyData.canLayAll0 (D.toPys ds) = true ∧ PyData.depthAll (D.toPys ds) ≤ n) (fun _ _ => ⟨rfl, Nat.zero_le _⟩) (fun _ _ _ => ⟨rfl, Nat.zero_le _⟩) (fun _ _ _ _ => ⟨rfl, Nat.zero_le _⟩) (fun t p _ _ _ => ⟨zhx p, Nat.zero_le _⟩) (fun m n q => ?_) (fun f g _ _ ih n q => ?_) (fun f g _ _ ih n q => ?_) (fun {k} f n q => ?_) (fun _ _ => ⟨rfl, Nat.zero_le _⟩) (fun _ _ i1 i2 n q => ?_) r n q
  · obtain ⟨k, rfl⟩ := nx q; cases q
  · obtain ⟨k, rfl⟩ := nx q
    have := ih k q
    simp only [D.toPy, PyData.canLay0, PyData.depth]
    exact ⟨this.1, by omega⟩
  · obtain ⟨k, rfl⟩ := nx q
    have := ih k q
    simp only [D.toPy, PyData.canLay0, PyData.depth]
    exact ⟨this.1, by omega⟩
  · obtain ⟨j, rfl⟩ := nx q
    have e : PyData.strOk ⟨(tokC k).toArray⟩ = true := zhx (by cases k <;> simp [tokC])
    have hj : 0 < j := of_decide_eq_true (Bool.and_eq_true_iff.mp q).1
    simp only [D.toPy, PyData.canLay0, PyData.canLayAll0, PyData.depth, PyData.depthAll, e, Bool.and_self, true_and]; omega
  · have q' := Bool.and_eq_true_iff.mp q
    have x := i1 n q'.1
    have y := i2 n q'.2
    simp only [D.toPys, PyData.canLayAll0, PyData.depthAll, x.1, y.1]
    exact ⟨rfl, by omega⟩
theorem RepL.lay {vs : List Value} {ds : List D} {n : Nat} (r : RepL T F h vs ds) (q : D.oks n ds = true) : PyData.canLayAll0 (D.toPys ds) = true ∧ PyData.depthAll (D.toPys ds) ≤ n :=
  r.ind (motive := fun vs ds => D.oks n ds = true → PyData.canLayAll0 (D.toPys ds) = true ∧ PyData.depthAll (D.toPys ds) ≤ n) (fun _ => ⟨rfl, Nat.zero_le _⟩) (fun a _ i q => by
    have q' := Bool.and_eq_true_iff.mp q
    have x := a.lay q'.1
    have y := i q'.2
    simp only [D.toPys, PyData.canLayAll0, PyData.depthAll, x.1, y.1]
    exact ⟨rfl, Nat.max_le.mpr ⟨x.2, y.2⟩⟩) q
theorem Rep.shaped {v : Value} {d : D} {n : Nat} (r : Rep T F h v d) (q : d.ok n = true) (hn : n ≤ 60) : PySem.SeqAt.shaped d.toPy = true := by
  have l := r.lay q
  unfold PySem.SeqAt.shaped
  rw [l.1, Bool.true_and]; exact decide_eq_true (by omega)
end
noncomputable def GensBare (a : Array GenState) : Prop := ∀ g ∈ a, g.bare = true
set_option genInjectivity false in
structure XCx extends Cx where
  XF : (Addr → Prop) → Heap → Prop
  cok : (Nat → List D → Option D) → Prop := fun _ => True
set_option genInjectivity false in
structure Wd (cx : XCx) (F : AP) (s : Shared) : Prop where
  base : ∀ a o, cx.h0.get? a = some o → ¬ cx.X a → s.heap.get? a = some o
  xi : cx.XF F s.heap
  gens : GensBare s.gens
  f0 : ∀ a o, cx.h0.get? a = some o → ¬ cx.X a → F a
  lt : ∀ a, F a → ∃ o, s.heap.get? a = some o
  nx : ∀ a, F a → ¬ cx.X a
  xex : ∀ a, cx.X a → ∃ o, s.heap.get? a = some o
set_option genInjectivity false in
structure CxOk (cx : XCx) : Prop where
  xi : ∀ F F' h h', cx.XF F h → (∀ a, F a → F' a) → (∀ a o, F a ∨ cx.X a → h.get? a = some o → h'.get? a = some o) → cx.XF F' h'
  glob : cx.h0.Ns mainGlobals cx.mg
  gx : ¬ cx.X mainGlobals
  blt : cx.h0.Ns builtinsNs cx.mb
  bx : ¬ cx.X builtinsNs
  bmb : ∀ x : Str, x ≠ "__name__" → cx.mb x = bootBuiltins x
  lim : cx.h0.NoLimit
  limx : ¬ cx.X cStatics
  seer : ∀ h : Heap, (∀ a o, cx.h0.get? a = some o → ¬ cx.X a → h.get? a = some o) → h.NoSeer
  tree : cx.prog.given.tree = none
  nb : ∃ mc, cx.h0.Ns cStatics mc ∧ mc sharingNotToldKey = none
  tinj : ∀ i j, cx.T i = cx.T j → i = j
set_option genInjectivity false in
structure Step (cx : XCx) (F : AP) (s : Shared) (F' : AP) (s' : Shared) : Prop where
  sub : ∀ a, F a → F' a
  new : ∀ a, F' a → F a ∨ s.heap.get? a = none
  keep : ∀ a o, s.heap.get? a = some o → ¬ cx.X a → s'.heap.get? a = some o
  os : s'.os = s.os
  wd : Wd cx F' s'
theorem zar (h : Heap) : h.get? h.objs.size = none := by
  cases e : h.get? h.objs.size with
  | none => rfl
  | some o => exact absurd (Heap.lt_size e) (Nat.lt_irrefl _)
section
variable {cx : XCx} {F F' F'' : AP} {s s' s'' : Shared}
theorem Step.refl (w : Wd cx F s) : Step cx F s F s := ⟨fun _ h => h, fun _ h => .inl h, fun _ _ e _ => e, rfl, w⟩
theorem Step.fresh (x : Step cx F s F' s') {a : Addr} (nx : ¬ cx.X a) (h : s'.heap.get? a = none) : s.heap.get? a = none := by
  cases e : s.heap.get? a with
  | none => rfl
  | some o => rw [x.keep a o e nx] at h; cases h
theorem Step.trans (x : Step cx F s F' s') (y : Step cx F' s' F'' s'') : Step cx F s F'' s'' :=
  ⟨fun a h => y.sub a (x.sub a h), fun a h => by
    rcases y.new a h with q | q
    · exact x.new a q
    · exact .inr (x.fresh (y.wd.nx a h) q), fun a o e nx => y.keep a o (x.keep a o e nx) nx, y.os.trans x.os, y.wd⟩
theorem Wd.toks (w : Wd cx F s) (k : Nat) : Wd cx F { s with toks := k } := ⟨w.base, w.xi, w.gens, w.f0, w.lt, w.nx, w.xex⟩
theorem Step.toks (x : Step cx F s F' s') (k : Nat) : Step cx F s F' { s' with toks := k } := ⟨x.sub, x.new, x.keep, x.os, x.wd.toks k⟩
theorem Step.rep (x : Step cx F s F' s') (w : Wd cx F s) {v : Value} {d : D} (r : Rep cx.T F s.heap v d) : Rep cx.T F' s'.heap v d := r.mono x.sub fun a o f e => x.keep a o e (w.nx a f)
theorem Step.repL (x : Step cx F s F' s') (w : Wd cx F s) {v : List Value} {d : List D} (r : RepL cx.T F s.heap v d) : RepL cx.T F' s'.heap v d := r.mono x.sub fun a o f e => x.keep a o e (w.nx a f)
theorem Step.grown (ok : CxOk cx) (w : Wd cx F s) {h' : Heap} (k : Nat) (hk : ∀ a o, s.heap.get? a = some o → h'.get? a = some o) : Step cx F s F { s with heap := h', toks := k } :=
  ⟨fun _ h => h, fun _ h => .inl h, fun a o e _ => hk a o e, rfl, ⟨fun a o e nx => hk a o (w.base a o e nx), ok.xi _ _ _ _ w.xi (fun _ h => h) (fun a o _ e => hk a o e), w.gens, w.f0, fun a f => let ⟨o, e⟩ := w.lt a f; ⟨o, hk a o e⟩, w.nx, fun a f => let ⟨o, e⟩ := w.xex a f; ⟨o, hk a o e⟩⟩⟩
theorem Step.push (ok : CxOk cx) (w : Wd cx F s) (o : Obj) (k : Nat) : Step cx F s F { s with heap := s.heap.push o, toks := k } :=
  Step.grown ok w k fun _ _ e => Heap.get?_push_of_some o e
theorem Wd.newNotX (w : Wd cx F s) {a : Addr} (h : s.heap.get? a = none) : ¬ cx.X a := fun x => by
  obtain ⟨o, e⟩ := w.xex a x
  rw [e] at h; cases h
theorem Wd.newNotF (w : Wd cx F s) {a : Addr} (h : s.heap.get? a = none) : ¬ F a := fun x => by
  obtain ⟨o, e⟩ := w.lt a x
  rw [e] at h; cases h
theorem Step.freeze (ok : CxOk cx) (w : Wd cx F s) (x : Step cx F s F' s') {a : Addr} {o : Obj} (h1 : s.heap.get? a = none) (h2 : s'.heap.get? a = some o) : Step cx F s (fun b => F' b ∨ b = a) s' :=
  ⟨fun b h => .inl (x.sub b h), fun b h => h.elim (x.new b) fun e => .inr (e ▸ h1), x.keep, x.os,
    ⟨x.wd.base, ok.xi _ _ _ _ x.wd.xi (fun _ h => .inl h) (fun _ _ _ e => e), x.wd.gens, fun b o h nx => .inl (x.wd.f0 b o h nx), fun b h => h.elim (x.wd.lt b) fun e => e ▸ ⟨o, h2⟩,
      fun b h => h.elim (x.wd.nx b) fun e => e ▸ w.newNotX h1, x.wd.xex⟩⟩
theorem Step.notF (x : Step cx F s F' s') {a : Addr} {o : Obj} (h : ¬ F a) (hl : s.heap.get? a = some o) : ¬ F' a := fun h' => by
  rcases x.new a h' with q | q
  · exact h q
  · rw [hl] at q; cases q
theorem Wd.glob (ok : CxOk cx) (w : Wd cx F s) : s.heap.Ns mainGlobals cx.mg := ok.glob.at' fun o e => w.base _ o e ok.gx
theorem Wd.blt (ok : CxOk cx) (w : Wd cx F s) : s.heap.Ns builtinsNs cx.mb := ok.blt.at' fun o e => w.base _ o e ok.bx
theorem Wd.lim (ok : CxOk cx) (w : Wd cx F s) : s.heap.NoLimit := ok.lim.at fun o e => w.base _ o e ok.limx
end
inductive BRep (cx : XCx) (F : AP) (h : Heap) : Value → D → Prop
  | rep {v : Value} {d : D} : Rep cx.T F h v d → BRep cx F h v d
  | own {a : Addr} {vs : List Value} {n : Nat} {l : List D} : ¬ cx.X a → h.get? a = some (lobj vs.toArray n) → vs.length ≤ lim → RepL cx.T F h vs l → BRep cx F h (.ref a) (.list l)
inductive BRepL (cx : XCx) (F : AP) (h : Heap) : List Value → List D → Prop
  | nil : BRepL cx F h [] []
  | cons {v : Value} {vs : List Value} {d : D} {ds : List D} : BRep cx F h v d → BRepL cx F h vs ds → BRepL cx F h (v :: vs) (d :: ds)
inductive RepR (cx : XCx) (F : AP) (lo : Heap) (h : Heap) : Value → R → Prop
  | val {v : Value} {d : D} : Rep cx.T F h v d → RepR cx F lo h v (.val d)
  | own {a : Addr} {vs : List Value} {n : Nat} {l : List D} : lo.get? a = none → ¬ F a → ¬ cx.X a → h.get? a = some (lobj vs.toArray n) → vs.length ≤ lim → RepL cx.T F h vs l → RepR cx F lo h (.ref a) (.own l)
  | bor {a : Addr} {vs : List Value} {n : Nat} {l : List D} : ¬ cx.X a → h.get? a = some (lobj vs.toArray n) → vs.length ≤ lim → RepL cx.T F h vs l → RepR cx F lo h (.ref a) (.bor l)
section
variable {cx : XCx} {F F' F'' : AP} {s s' s'' : Shared} {v : Value} {d : D} {r : R} {lo : Heap} {vs : List Value} {ds : List D}
theorem Step.brep (x : Step cx F s F' s') (w : Wd cx F s) (b : BRep cx F s.heap v d) : BRep cx F' s'.heap v d := by
  cases b with
  | rep q => exact .rep (x.rep w q)
  | own nx e z q => exact .own nx (x.keep _ _ e nx) z (x.repL w q)
theorem RepR.brep {h : Heap} (q : RepR cx F lo h v r) : BRep cx F h v r.ds := by
  cases q with
  | val q => exact .rep q
  | own _ _ nx e z q => exact .own nx e z q
  | bor nx e z q => exact .own nx e z q
theorem RepR.step (x : Step cx F s F' s') (w : Wd cx F s) (q : RepR cx F lo s.heap v r) : RepR cx F' lo s'.heap v r := by
  cases q with
  | val q => exact .val (x.rep w q)
  | own l nf nx e z q => exact .own l (x.notF nf e) nx (x.keep _ _ e nx) z (x.repL w q)
  | bor nx e z q => exact .bor nx (x.keep _ _ e nx) z (x.repL w q)
theorem RepR.low (x : Step cx F s F' s') {F'' : AP} {h : Heap} (q : RepR cx F'' s'.heap h v r) : RepR cx F'' s.heap h v r := by
  cases q with
  | val q => exact .val q
  | own l nf nx e z q => exact .own (x.fresh nx l) nf nx e z q
  | bor nx e z q => exact .bor nx e z q
theorem Step.fz (ok : CxOk cx) (w : Wd cx F s) (x : Step cx F s F' s') (q : RepR cx F' s.heap s'.heap v r) (e : r.fz = some d) :
    ∃ F'', Step cx F s F'' s' ∧ (∀ a, F' a → F'' a) ∧ Rep cx.T F'' s'.heap v d := by
  cases q with
  | val q => cases e; exact ⟨F', x, fun _ h => h, q⟩
  | own l nf nx g z q =>
    cases e
    exact ⟨_, x.freeze ok w l g, fun _ h => .inl h, .list (.inr rfl) g z (q.mono (fun _ h => .inl h) fun _ _ _ e => e)⟩
  | bor nx g z q => cases e
end
set_option genInjectivity false in
structure Bud (n : Nat) (A : Around) : Prop where
  hd : A.handled = none
  dp : A.depth + n < 890
  un : A.units + 10 * n + 200 < 9900
  fs : ∃ l, A.frames = some l
theorem Bud.lt {n k : Nat} {A : Around} (b : Bud n A) (h : k ≤ 200) : A.units + k < cLine := by have := b.un; show A.units + k < 9900; omega
set_option genInjectivity false in
structure BudE (n : Nat) (A : Around) : Prop extends Bud n A where
  sl : A.units + 10 * n + 207 < 9900
  fr : ∃ env l, A.frames = some (env :: l) ∧ env.scope.isGenerator = false ∧ env.scope.isCoroutine = false ∧ env.builtins = builtinsNs ∧ env.globals = mainGlobals
noncomputable def Post (cx : XCx) (F : AP) (s : Shared) (r : R) (Q : VP) : Prop :=
  ∀ v F' s', Step cx F s F' s' → RepR cx F' s.heap s'.heap v r → Q v s'
noncomputable def Ev (cx : XCx) (A : Around) (F : AP) (s : Shared) (t : Sem Value) (r : R) : Prop := ∀ Q E, Post cx F s r Q → wpAny (model cx.prog cx.w) A t Q E s
noncomputable def EvB (cx : XCx) (A : Around) (F : AP) (s : Shared) (t : Sem Bool) (b : Bool) : Prop := ∀ Q E, (∀ F' s', Step cx F s F' s' → Q b s') → wpAny (model cx.prog cx.w) A t Q E s
set_option genInjectivity false in
structure Sc where
  kinds : List (Str × NameKind)
  vars : List (Str × Nat)
  code : Option (Addr × PySem.Str) := none
inductive KV (T : NAd) (F : AP) (h : Heap) : List (Str × Value) → List D → Prop
  | nil : KV T F h [] []
  | cons {k : List Nat} {v : Value} {d : D} {kvs : List (Str × Value)} {l : List D} : (∀ c ∈ k, c < 0x110000) → k.length ≤ lim → Rep T F h v d → KV T F h kvs l → KV T F h ((⟨k.toArray⟩, v) :: kvs) (.tup [.str k, d] :: l)
theorem KV.mono {T : NAd} {F F' : AP} {h h' : Heap} (hF : ∀ a, F a → F' a) (hk : ∀ a o, F a → h.get? a = some o → h'.get? a = some o) {kvs : List (Str × Value)} {l : List D} (q : KV T F h kvs l) : KV T F' h' kvs l := by
  induction q with
  | nil => exact .nil
  | cons a b r _ ih => exact .cons a b (r.mono hF hk) ih
inductive SlotRep (cx : XCx) (F : AP) (h : Heap) (ad : NAd) (i : Nat) : Option Value → Slot → Prop
  | unset {ov : Option Value} : SlotRep cx F h ad i ov .unset
  | val {v : Value} {d : D} : Rep cx.T F h v d → SlotRep cx F h ad i (some v) (.val d)
  | own {vs : List Value} {n : Nat} {l : List D} : ¬ F (ad i) → ¬ cx.X (ad i) → h.get? (ad i) = some (lobj vs.toArray n) → vs.length ≤ lim → RepL cx.T F h vs l → dSlot i = false → SlotRep cx F h ad i (some (.ref (ad i))) (.own l)
  | dic {kvs : List (Str × Value)} {l : List D} : ¬ F (ad i) → ¬ cx.X (ad i) → (ad i == sysModules) = false → h.DictOf (strKind cx.prog cx.w) (ad i) kvs → KV cx.T F h kvs l → l.length ≤ lim → dSlot i = true → SlotRep cx F h ad i (some (.ref (ad i))) (.own l)
  | fdic {a : Addr} {kvs : List (Str × Value)} {l : List D} : F a → (a == sysModules) = false → h.DictOf (strKind cx.prog cx.w) a kvs → KV cx.T F h kvs l → l.length ≤ lim → SlotRep cx F h ad i (some (.ref a)) (.fdic l)
  | app {b : Addr} {o : Obj} {j : Nat} : F b → h.get? b = some o → o = appObj (ad j) → SlotRep cx F h ad i (some (.ref b)) (.app j)
noncomputable def slotAt (ρ : List Slot) (i : Nat) : Slot := ρ.getD i .unset
set_option genInjectivity false in
structure EnvOK (cx : XCx) (ε : Sc) (env : Env) (F : AP) (h : Heap) (ρ : List Slot) (ad : NAd) (m cm : SV) : Prop where
  kind : env.scope.kind = .function
  names : env.scope.names = ε.kinds
  glob : env.globals = mainGlobals
  blt : env.builtins = builtinsNs
  code : ∀ c q, ε.code = some (c, q) → env.code = .ref c ∧ env.qual = q
  lx : ¬ cx.X env.locals
  cxx : ∀ n c, env.cells.lookup n = some c → ¬ cx.X c
  ns : h.Ns env.locals m
  cells : ∀ n c, env.cells.lookup n = some c → h.IsCell c (cm n)
  vars : ∀ x i, ε.vars.lookup x = some i →
    (ε.kinds.lookup x = some .local ∧ SlotRep cx F h ad i (m x) (slotAt ρ i)) ∨
    ((ε.kinds.lookup x = some .cell ∨ ε.kinds.lookup x = some .free) ∧ (∃ c, env.cells.lookup x = some c) ∧ SlotRep cx F h ad i (cm x) (slotAt ρ i))
section
variable {cx : XCx} {F F' : AP} {s s' : Shared} {ε : Sc} {env : Env} {ρ : List Slot} {ad : NAd} {m cm : SV}
theorem SlotRep.step {i : Nat} {ov : Option Value} {sl : Slot} (x : Step cx F s F' s') (w : Wd cx F s) (q : SlotRep cx F s.heap ad i ov sl) : SlotRep cx F' s'.heap ad i ov sl := by
  cases q with
  | unset => exact .unset
  | val q => exact .val (x.rep w q)
  | own nf nx g z q hd => exact .own (x.notF nf g) nx (x.keep _ _ g nx) z (x.repL w q) hd
  | dic nf nx sm g q z hd =>
    obtain ⟨o, es, ep, ho, r⟩ := g
    exact .dic (x.notF nf ho) nx sm ⟨o, es, ep, x.keep _ _ ho nx, r⟩ (q.mono x.sub fun a o f e => x.keep a o e (w.nx a f)) z hd
  | fdic f sm g q z =>
    obtain ⟨o, es, ep, ho, r⟩ := g
    exact .fdic (x.sub _ f) sm ⟨o, es, ep, x.keep _ _ ho (w.nx _ f), r⟩ (q.mono x.sub fun a o f e => x.keep a o e (w.nx a f)) z
  | app f g e => exact .app (x.sub _ f) (x.keep _ _ g (w.nx _ f)) e
theorem RepR.pushOwn (w : Wd cx F s) {vs : List Value} {l : List D} (z : vs.length ≤ lim) (q : RepL cx.T F s.heap vs l) : RepR cx F s.heap (s.heap.push (lobj vs.toArray 0)) (.ref s.heap.objs.size) (.own l) :=
  .own (n := 0) (zar _) (w.newNotF (zar _)) (w.newNotX (zar _)) (Heap.get?_push_size _ rfl) z (q.mono (fun _ h => h) fun _ _ _ e => Heap.get?_push_of_some _ e)
theorem EnvOK.step (x : Step cx F s F' s') (w : Wd cx F s) (e : EnvOK cx ε env F s.heap ρ ad m cm) : EnvOK cx ε env F' s'.heap ρ ad m cm :=
  ⟨e.kind, e.names, e.glob, e.blt, e.code, e.lx, e.cxx, e.ns.at' fun o g => x.keep _ o g e.lx, fun n c hc => let ⟨o, g, d⟩ := e.cells n c hc; ⟨o, x.keep _ o g (e.cxx n c hc), d⟩,
    fun y i hy => (e.vars y i hy).imp (fun ⟨k, q⟩ => ⟨k, q.step x w⟩) fun ⟨k, c, q⟩ => ⟨k, c, q.step x w⟩⟩
end
noncomputable def FnAt (cx : XCx) (f : Nat) : Prop := ∃ o fd, cx.h0.get? (cx.fa f) = some o ∧ o.data = .func fd ∧ ¬ cx.X (cx.fa f)
set_option genInjectivity false in
structure CallOK (cx : XCx) (n : Nat) (cf : CfT) : Prop where
  cok : cx.cok cf
  call : ∀ f args d, cf f args = some d → FnAt cx f ∧ ∀ A F s vs, Bud n A → Wd cx F s → RepL cx.T F s.heap vs args → ∀ (Rs : Result → Shared → Prop), (∀ v F' s', Step cx F s F' s' → Rep cx.T F' s'.heap v d → Rs (.ok (.ret v)) s') →
    codeAny (model cx.prog cx.w) A (.call (.ref (cx.fa f)) ⟨vs, []⟩) Rs s
set_option genInjectivity false in
structure Here (cx : XCx) (ε : Sc) (n : Nat) (cf : CfT) (A : Around) (env : Env) (F : AP) (s : Shared) (ρ : List Slot) (ad : NAd) (m cm : SV) : Prop where
  ok : CxOk cx
  calls : CallOK cx n cf
  bud : BudE n A
  wd : Wd cx F s
  env : EnvOK cx ε env F s.heap ρ ad m cm
theorem Here.step {cx : XCx} {ε : Sc} {n : Nat} {cf : CfT} {A : Around} {env : Env} {F F' : AP} {s s' : Shared} {ρ : List Slot} {ad : NAd} {m cm : SV}
    (H : Here cx ε n cf A env F s ρ ad m cm) (x : Step cx F s F' s') : Here cx ε n cf A env F' s' ρ ad m cm := ⟨H.ok, H.calls, H.bud, x.wd, H.env.step x H.wd⟩
noncomputable def SoundE (cx : XCx) (ε : Sc) (e : Expr) (x : X) : Prop :=
  ∀ n cf A env F s ρ ad m cm, Here cx ε n cf A env F s ρ ad m cm → ∀ r, ev cf x ρ = some [r] → Ev cx A F s (eval e env) r
noncomputable def SoundT (cx : XCx) (ε : Sc) (e : Expr) (x : X) : Prop :=
  ∀ n cf A env F s ρ ad m cm, Here cx ε n cf A env F s ρ ad m cm → ∀ b, evT cf x ρ = some b → EvB cx A F s (isTrue e env (eval e env)) b
set_option genInjectivity false in
structure Sound (cx : XCx) (ε : Sc) (e : Expr) (x : X) : Prop where
  ev : SoundE cx ε e x
  tr : SoundT cx ε e x
section
variable {cx : XCx} {A : Around} {F F' : AP} {s s' : Shared} {t : Sem Value} {r : R}
theorem Ev.here (w : Wd cx F s) {v : Value} (q : RepR cx F s.heap s.heap v r) : Ev cx A F s (pure v) r := fun _ _ h => wpAny_pure (h v F s (Step.refl w) q)
theorem Post.after {Q : VP} (x : Step cx F s F' s') (h : Post cx F s r Q) : Post cx F' s' r Q := fun v F'' s'' y q => h v F'' s'' (x.trans y) (q.low x)
theorem Ev.bind {α : Type} {k : Value → Sem α} {Q : α → Shared → Prop} {E : VP} (h : Ev cx A F s t r)
    (g : ∀ v F' s', Step cx F s F' s' → RepR cx F' s.heap s'.heap v r → wpAny (model cx.prog cx.w) A (k v) Q E s') : wpAny (model cx.prog cx.w) A (t >>= k) Q E s :=
  wb (h _ _ g)
end
inductive EvOp (cf : CfT) (ρ : List Slot) (o : Op) (a : X) (r : R) : Prop
  | mk (rs : List R) (e : ev cf a ρ = some rs) (h : opF o (rs.map R.ds) = some r)
inductive EvCons (cf : CfT) (ρ : List Slot) (a b : X) (rs : List R) : Prop
  | mk (x : R) (xs : List R) (ea : ev cf a ρ = some [x]) (eb : ev cf b ρ = some xs) (e : rs = x :: xs)
inductive ListInv (cx : XCx) (F : AP) (h : Heap) (v : Value) (l : List D) : Prop
  | mk (a : Addr) (vs : List Value) (n : Nat) (e : v = .ref a) (nx : ¬ cx.X a) (g : h.get? a = some (lobj vs.toArray n)) (z : vs.length ≤ lim) (q : RepL cx.T F h vs l)
inductive TupInv (cx : XCx) (F : AP) (h : Heap) (v : Value) (l : List D) : Prop
  | mk (a : Addr) (vs : List Value) (n : Nat) (e : v = .ref a) (f : F a) (g : h.get? a = some (tobj vs.toArray n)) (z : vs.length ≤ lim) (q : RepL cx.T F h vs l)
inductive StrInv (v : Value) (l : List Nat) : Prop
  | mk (t : Tok) (e : v = .str ⟨l.toArray⟩ t) (p : ∀ c ∈ l, c < 0x110000) (z : l.length ≤ lim)
inductive TwoInv (cx : XCx) (F : AP) (h : Heap) (vs : List Value) (a b : D) : Prop
  | mk (x y : Value) (e : vs = [x, y]) (qa : BRep cx F h x a) (qb : BRep cx F h y b)
section
variable {cf : CfT} {ρ : List Slot}
theorem ev_op {o : Op} {a : X} {r : R} (h : ev cf (.op o a) ρ = some [r]) : EvOp cf ρ o a r := by
  replace h := (zcb _).symm.trans h
  split at h
  · rename_i rs e
    obtain ⟨r', e', h'⟩ := Option.map_eq_some_iff.mp h
    cases h'
    exact ⟨rs, e, e'⟩
  · cases h
theorem zaJ {a b : X} {rs : List R} (h : ev cf (.cons a b) ρ = some rs) : EvCons cf ρ a b rs := by
  replace h := (za2 _).symm.trans h
  split at h
  · rename_i x e
    obtain ⟨xs, e', h'⟩ := Option.map_eq_some_iff.mp h
    exact ⟨x, xs, e, e', h'.symm⟩
  · cases h
theorem zcp {rs : List R} (h : ev cf .nil ρ = some rs) : rs = [] := by replace h := (zbE _).symm.trans h; cases h; rfl
end
noncomputable def op1 (f : Value → Sem Value) : List Value → Sem Value
  | [a] => f a
  | _ => unsupported "mine"
noncomputable def op2 (f : Value → Value → Sem Value) : List Value → Sem Value
  | [a, b] => f a b
  | _ => unsupported "mine"
noncomputable def OpOK (cx : XCx) (o : Op) (t : List Value → Sem Value) : Prop :=
  ∀ n A F s vs ds r, CxOk cx → BudE n A → Wd cx F s → BRepL cx F s.heap vs ds → opF o ds = some r → Ev cx A F s (t vs) r
theorem sz_lt {n : Nat} (h : n ≤ lim) : (n : Int) < 2 ^ 63 := by unfold lim at h; omega
theorem zaC {n : Nat} (h : n ≤ lim) : n ≤ sizeLine := by rw [sizeLine_eq]; unfold lim at h; omega
section
variable {cx : XCx} {F : AP} {s : Shared} {h : Heap} {v : Value} {A : Around}
theorem zaB {a : Addr} {vs : List Value} {n : Nat} (g : h.get? a = some (lobj vs.toArray n)) : h.IsList a vs.toArray := ⟨_, g, rfl, n, rfl⟩
theorem zfF {a : Addr} {vs : List Value} {n : Nat} (g : h.get? a = some (tobj vs.toArray n)) : IsTup h a vs.toArray := ⟨_, g, rfl, n, rfl⟩
theorem BRep.list_inv (w : Wd cx F s) {l : List D} (b : BRep cx F s.heap v (.list l)) : ListInv cx F s.heap v l := by
  cases b with
  | rep q =>
    cases q with
    | list f g z q => exact ⟨_, _, _, rfl, w.nx _ f, g, z, q⟩
  | own nx g z q => exact ⟨_, _, _, rfl, nx, g, z, q⟩
theorem BRep.tup_inv {l : List D} (b : BRep cx F h v (.tup l)) : TupInv cx F h v l := by
  cases b with
  | rep q =>
    cases q with
    | tup f g z q => exact ⟨_, _, _, rfl, f, g, z, q⟩
theorem BRep.str_inv {l : List Nat} (b : BRep cx F h v (.str l)) : StrInv v l := by
  cases b with
  | rep q => cases q with | str t p z => exact ⟨t, rfl, p, z⟩
theorem BRep.int_inv {i : Int} (b : BRep cx F h v (.int i)) : ∃ t, v = .int i t := by
  cases b with
  | rep q => cases q with | int _ t => exact ⟨t, rfl⟩
theorem BRep.bool_inv {i : Bool} (b : BRep cx F h v (.bool i)) : v = .bool i := by
  cases b with
  | rep q => cases q with | bool _ => rfl
theorem BRep.none_inv (b : BRep cx F h v .none) : v = .none := by
  cases b with
  | rep q => cases q with | none => rfl
theorem BRep.ty_inv {n : String} (b : BRep cx F h v (.ty n)) : v = .type n := by
  cases b with
  | rep q => cases q with | ty _ => rfl
theorem BRep.tok_inv {k : Nat} (b : BRep cx F h v (.tok k)) : v = .ref (cx.T k) := by
  cases b with
  | rep q => cases q with | tok _ => rfl
theorem BRepL.two {vs : List Value} {a b : D} (q : BRepL cx F h vs [a, b]) : TwoInv cx F h vs a b := by
  cases q with
  | cons p q => cases q with | cons p' q => cases q; exact ⟨_, _, rfl, p, p'⟩
theorem BRepL.one {vs : List Value} {a : D} (q : BRepL cx F h vs [a]) : ∃ x, vs = [x] ∧ BRep cx F h x a := by
  cases q with
  | cons p q => cases q; exact ⟨_, rfl, p⟩
theorem zbq (w : Wd cx F s) {d : D} {b : Bool} (q : BRep cx F s.heap v d) (e : d.truth = some b) : EvB cx A F s (truthy v) b := by
  intro Q E hQ
  cases d with
  | none => cases e; rw [q.none_inv]; exact PyProof.Rows.truthy_none (hQ F s (Step.refl w))
  | bool b => cases e; rw [q.bool_inv]; exact wpAny_truthy_bool (hQ F s (Step.refl w))
  | int i =>
    obtain ⟨t, rfl⟩ := q.int_inv
    cases e
    refine PyProof.Rows.truthy_int ?_
    have := hQ F s (Step.refl w)
    by_cases hi : i = 0
    · subst hi; exact this
    · have e1 : (i != 0) = true := bne_iff_ne.mpr hi
      rw [e1]
      simpa [hi] using this
  | str l =>
    obtain ⟨t, rfl, p, z⟩ := q.str_inv
    cases e
    refine P.truthy_str (by have := sz_lt z; show ¬ ((l.toArray.size : Nat) : Int) ≥ 2 ^ 63; rw [List.size_toArray]; omega) ?_
    have e : (((PySem.Str.mk l.toArray).length : Int) != 0) = !l.isEmpty := by
      show (((l.toArray.size : Nat) : Int) != 0) = _
      rw [List.size_toArray]
      cases l <;> simp <;> omega
    rw [e]
    exact hQ F _ ((Step.refl w).toks _)
  | list l =>
    obtain ⟨a, vs, n, rfl, nx, g, z, ql⟩ := q.list_inv w
    cases e
    refine wpAny_truthy_list (zaB g) (by rw [List.size_toArray]; exact sz_lt z) ?_
    have e : (!vs.toArray.isEmpty) = !l.isEmpty := by
      have := ql.length
      clear q
      cases vs <;> cases l <;> simp_all
    rw [e]
    exact hQ F _ ((Step.refl w).toks _)
  | tup l =>
    obtain ⟨a, vs, n, rfl, f, g, z, ql⟩ := q.tup_inv
    cases e
    refine PyProof.Rows.truthy_tuple (zfF g) (by rw [List.size_toArray]; exact sz_lt z) ?_
    have e : (!vs.toArray.isEmpty) = !l.isEmpty := by
      have := ql.length
      clear q
      cases vs <;> cases l <;> simp_all
    rw [e]
    exact hQ F _ ((Step.refl w).toks _)
  | tok k => cases e
  | ty n => cases e
end
section
variable {cx : XCx} {ε : Sc}
theorem SoundT.ofE {e : Expr} {x : X} (h : SoundE cx ε e x) (hf : ∀ env, isTrue e env (eval e env) = (do let v ← eval e env; standAt e.pos; holding [v] (truthy v))) : SoundT cx ε e x := by
  intro n cf A env F s ρ ad m cm H b hb Q E hQ
  unfold evT truthR at hb
  split at hb
  · rename_i r e
    rw [hf]
    refine Ev.bind (h n cf A env F s ρ ad m cm H r e) fun v F' s' st q => ?_
    exact wb (wpAny_standAt (wpAny_holding (zbq st.wd q.brep hb _ _ fun F'' s'' st' => hQ F'' s'' (st.trans st'))))
  · cases hb
theorem Sound.ofE {e : Expr} {x : X} (h : SoundE cx ε e x) (hf : ∀ env, isTrue e env (eval e env) = (do let v ← eval e env; standAt e.pos; holding [v] (truthy v))) : Sound cx ε e x := ⟨h, SoundT.ofE h hf⟩
noncomputable def constD : Const → Option D
  | .none => some .none
  | .bool b => some (.bool b)
  | .int i => some (.int i)
  | .str x => if x.cps.toList.all (fun c => decide (c < 0x110000)) && decide (x.cps.size ≤ lim) then some (.str x.cps.toList) else none
  | _ => none
theorem zab {c : Const} {k : Nat} {pos : Pos} {d : D} (hd : constD c = some d) : Sound cx ε (.Constant c k pos) (.const d) := by
  refine Sound.ofE ?_ fun _ => rfl
  intro n cf A env F s ρ ad m cm H r hr Q E hQ
  replace hr := (zaE _).symm.trans hr
  cases hr
  cases c <;> try cases hd
  · exact wpAny_pure (hQ _ F s (Step.refl H.wd) (.val .none))
  · exact wpAny_pure (hQ _ F s (Step.refl H.wd) (.val (.bool _)))
  · exact wpAny_Constant_int (hQ _ F _ ((Step.refl H.wd).toks _) (.val (.int _ _)))
  · rename_i x
    replace hd : (if (x.cps.toList.all (fun c => decide (c < 0x110000)) && decide (x.cps.size ≤ lim)) = true then some (D.str x.cps.toList) else none) = some d := hd
    split at hd
    · rename_i q
      cases hd
      simp only [Bool.and_eq_true, List.all_eq_true, decide_eq_true_eq] at q
      refine Calls.Constant_str (hQ _ F _ ((Step.refl H.wd).toks _) (.val ?_))
      exact Rep.str (l := x.cps.toList) _ q.1 (by rw [Array.length_toList]; exact q.2)
    · cases hd
theorem zcC {n cf A env F s ρ ad m cm} (H : Here cx ε n cf A env F s ρ ad m cm) {x : Str} {i : Nat} (hv : ε.vars.lookup x = some i) (hn : (x == ("__classdict__" : Str)) = false) {Q E : VP}
    (h : ∀ v, SlotRep cx F s.heap ad i (some v) (slotAt ρ i) → Q v s) (hs : slotAt ρ i ≠ .unset) : wpAny (model cx.prog cx.w) A (loadName env x) Q E s := by
  have hk : env.scope.kind = .function := H.env.kind
  have key : ∀ {ov : Option Value}, SlotRep cx F s.heap ad i ov (slotAt ρ i) → ∃ v, ov = some v ∧ SlotRep cx F s.heap ad i (some v) (slotAt ρ i) := by
    intro ov q
    generalize slotAt ρ i = sl at *
    cases q with
    | unset => exact absurd rfl hs
    | val q => exact ⟨_, rfl, .val q⟩
    | own a b c d q e => exact ⟨_, rfl, .own a b c d q e⟩
    | dic a b c d q z e => exact ⟨_, rfl, .dic a b c d q z e⟩
    | fdic a b c d e => exact ⟨_, rfl, .fdic a b c d e⟩
    | app a b c => exact ⟨_, rfl, .app a b c⟩
  rcases H.env.vars x i hv with ⟨k, q⟩ | ⟨k, ⟨c, hc⟩, q⟩
  · obtain ⟨v, e, q'⟩ := key q
    exact wpAny_loadName_local hk (by unfold Env.kindOf; rw [H.env.names]; exact k) H.env.ns e (h v q')
  · obtain ⟨v, e, q'⟩ := key q
    have hcell := H.env.cells x c hc
    rw [e] at hcell
    rcases k with k | k
    · exact wpAny_loadName_cell hk (by unfold Env.kindOf; rw [H.env.names]; exact k) hc hcell (h v q')
    · exact wpAny_loadName_free hk (by unfold Env.kindOf; rw [H.env.names]; exact k) hc hcell (h v q') hn
theorem zi6 {x : Str} {i : Nat} {pos : Pos} (hv : ε.vars.lookup x = some i) (hn : (x == ("__classdict__" : Str)) = false) (hd : (x == ("__debug__" : Str)) = false) : Sound cx ε (.Name x pos) (.var i) := by
  refine Sound.ofE ?_ fun _ => rfl
  intro n cf A env F s ρ ad m cm H r hr Q E hQ
  refine wpAny_Name ?_ hd
  replace hr := (zbl _).symm.trans hr
  have hr' : ∀ sl, ρ[i]? = some sl → slotAt ρ i = sl := fun sl e => by unfold slotAt; simp [List.getD, e]
  cases hs : ρ[i]? with
  | none => rw [hs] at hr; cases hr
  | some sl =>
    rw [hs] at hr
    have hsl := hr' sl hs
    refine zcC H hv hn (fun v q => ?_) (by rw [hsl]; intro e; subst e; cases hr)
    rw [hsl] at q
    cases q with
    | unset => cases hr
    | val q => cases hr; exact hQ v F s (Step.refl H.wd) (.val q)
    | own nf nx g z q hd =>
      replace hr := (if_neg (show ¬ dSlot i = true by rw [hd]; exact Bool.false_ne_true)).symm.trans hr
      cases hr
      exact hQ _ F s (Step.refl H.wd) (.bor nx g z q)
    | dic nf nx _ g q z hd =>
      replace hr := (if_pos hd).symm.trans hr
      cases hr
    | fdic a b c d e => cases hr
    | app a b c => cases hr
theorem run2 {n cf A env F s ρ ad m cm} (H : Here cx ε n cf A env F s ρ ad m cm) {l r : Expr} {xl xr : X} {o : Op} {res : R} {f : Value → Value → Sem Value} (hl : SoundE cx ε l xl) (hr : SoundE cx ε r xr) (ho : OpOK cx o (op2 f))
    (he : ev cf (.op o (.cons xl (.cons xr .nil))) ρ = some [res]) {Q E : VP} (hQ : Post cx F s res Q) :
    wpAny (model cx.prog cx.w) A (eval l env) (fun a s₁ => wpAny (model cx.prog cx.w) A (eval r env) (fun b s₂ => wpAny (model cx.prog cx.w) A (f a b) Q E s₂) E s₁) E s := by
  obtain ⟨rs, h1, h2⟩ := ev_op he
  obtain ⟨ra, xs, ha, h3, rfl⟩ := zaJ h1
  obtain ⟨rb, ys, hb, h4, rfl⟩ := zaJ h3
  cases zcp h4
  refine hl n cf A env F s ρ ad m cm H ra ha _ _ fun a F' s' st qa => ?_
  refine hr n cf A env F' s' ρ ad m cm (H.step st) rb hb _ _ fun b F'' s'' st' qb => ?_
  exact ho n A F'' s'' [a, b] _ res H.ok H.bud st'.wd (.cons (st'.brep st.wd qa.brep) (.cons qb.brep .nil)) h2 _ _ (hQ.after (st.trans st'))
theorem zak {l r : Expr} {op : Operator} {pos : Pos} {xl xr : X} {o : Op} (hl : Sound cx ε l xl) (hr : Sound cx ε r xr) (ho : OpOK cx o (op2 (binaryOp op))) : Sound cx ε (.BinOp l op r pos) (.op o (.cons xl (.cons xr .nil))) := by
  refine Sound.ofE ?_ fun _ => rfl
  intro n cf A env F s ρ ad m cm H res he Q E hQ
  exact wpAny_BinOp (run2 H hl.ev hr.ev ho he hQ)
theorem zae {l r : Expr} {op : CmpOp} {pos : Pos} {xl xr : X} {o : Op} (hl : Sound cx ε l xl) (hr : Sound cx ε r xr) (ho : OpOK cx o (op2 (compareOp op))) (hm : behindInMarks op r = false) : Sound cx ε (.Compare l [op] [r] pos) (.op o (.cons xl (.cons xr .nil))) := by
  have hE : SoundE cx ε (.Compare l [op] [r] pos) (.op o (.cons xl (.cons xr .nil))) := by
    intro n cf A env F s ρ ad m cm H res he Q E hQ
    exact wpAny_Compare1 (run2 H hl.ev hr.ev ho he hQ) hm
  refine ⟨hE, ?_⟩
  intro n cf A env F s ρ ad m cm H b hb Q E hQ
  unfold evT truthR at hb
  split at hb
  · rename_i res e
    refine wpAny_isTrue_Compare1 (run2 H hl.ev hr.ev ho e fun v F' s' st q => ?_) hm
    exact zbq st.wd q.brep hb _ _ fun F'' s'' st' => hQ F'' s'' (st.trans st')
  · cases hb
theorem zc5 {e : Expr} {op : UnaryOp} {pos : Pos} {x : X} {o : Op} (h : Sound cx ε e x) (ho : OpOK cx o (op1 (unaryOp op))) (hn : op ≠ .Not) : Sound cx ε (.UnaryOp op e pos) (.op o (.cons x .nil)) := by
  refine Sound.ofE ?_ fun _ => by cases op <;> first | rfl | exact absurd rfl hn
  intro n cf A env F s ρ ad m cm H res he Q E hQ
  obtain ⟨rs, h1, h2⟩ := ev_op he
  obtain ⟨ra, xs, ha, h3, rfl⟩ := zaJ h1
  cases zcp h3
  show wpAny _ _ (do let v ← eval e env; standAt pos; holding [v] (unaryOp op v)) Q E s
  refine Ev.bind (h.ev n cf A env F s ρ ad m cm H ra ha) fun a F' s' st qa => ?_
  refine wb (wpAny_standAt (wpAny_holding ?_))
  exact ho n A F' s' [a] _ res H.ok H.bud st.wd (.cons qa.brep .nil) h2 _ _ (hQ.after st)
theorem zcg {e : Expr} {pos : Pos} {x : X} (h : Sound cx ε e x) : Sound cx ε (.UnaryOp .Not e pos) (.not x) := by
  constructor
  · intro n cf A env F s ρ ad m cm H res he Q E hQ
    replace he := (zbc _).symm.trans he
    split at he
    · rename_i r e1
      obtain ⟨b, hb, h2⟩ := Option.map_eq_some_iff.mp he
      cases h2
      show wpAny _ _ (do let v ← eval e env; standAt pos; holding [v] (unaryOp .Not v)) Q E s
      refine Ev.bind (h.ev n cf A env F s ρ ad m cm H r e1) fun a F' s' st qa => ?_
      refine wb (wpAny_standAt (wpAny_holding ?_))
      exact not_of (zbq st.wd qa.brep hb _ _ fun F'' s'' st' => hQ _ F'' s'' (st.trans st') (.val (.bool _)))
    · cases he
  · intro n cf A env F s ρ ad m cm H b hb Q E hQ
    unfold evT truthR at hb
    split at hb
    · rename_i res e1
      replace e1 := (zbc _).symm.trans e1
      split at e1
      · rename_i r e2
        obtain ⟨b', hb', h2⟩ := Option.map_eq_some_iff.mp e1
        cases h2
        simp only [R.ds, D.truth, Option.some.injEq] at hb
        subst hb
        show wpAny _ _ (do return !(← isTrue e env (eval e env))) Q E s
        refine wb (h.tr n cf A env F s ρ ad m cm H b' (by unfold evT truthR; rw [e2]; exact hb') _ _ fun F' s' st => ?_)
        exact wpAny_pure (hQ F' s' st)
      · cases e1
    · cases hb
theorem zci {c t f : Expr} {pos : Pos} {xc xt xf : X} (hc : Sound cx ε c xc) (ht : Sound cx ε t xt) (hf : Sound cx ε f xf) : Sound cx ε (.IfExp c t f pos) (.ite xc xt xf) := by
  constructor
  · intro n cf A env F s ρ ad m cm H res he Q E hQ
    replace he := (zbd _).symm.trans he
    show wpAny _ _ (do if ← isTrue c env (eval c env) then eval t env else eval f env) Q E s
    split at he
    · rename_i hb
      refine wb (hc.tr n cf A env F s ρ ad m cm H true hb _ _ fun F' s' st => ?_)
      exact ht.ev n cf A env F' s' ρ ad m cm (H.step st) res he _ _ (hQ.after st)
    · rename_i hb
      refine wb (hc.tr n cf A env F s ρ ad m cm H false hb _ _ fun F' s' st => ?_)
      exact hf.ev n cf A env F' s' ρ ad m cm (H.step st) res he _ _ (hQ.after st)
    · cases he
  · intro n cf A env F s ρ ad m cm H b hb Q E hQ
    unfold evT at hb
    have he : ev cf (.ite xc xt xf) ρ = ev cf (.ite xc xt xf) ρ := rfl
    show wpAny _ _ (do if ← isTrue c env (eval c env) then isTrue t env (eval t env) else isTrue f env (eval f env)) Q E s
    rw [zbd] at hb
    split at hb
    · rename_i hb'
      refine wb (hc.tr n cf A env F s ρ ad m cm H true hb' _ _ fun F' s' st => ?_)
      exact ht.tr n cf A env F' s' ρ ad m cm (H.step st) b hb _ _ fun F'' s'' st' => hQ F'' s'' (st.trans st')
    · rename_i hb'
      refine wb (hc.tr n cf A env F s ρ ad m cm H false hb' _ _ fun F' s' st => ?_)
      exact hf.tr n cf A env F' s' ρ ad m cm (H.step st) b hb _ _ fun F'' s'' st' => hQ F'' s'' (st.trans st')
    · cases hb
inductive SoundB (cx : XCx) (ε : Sc) : BoolOp → List Expr → X → Prop
  | one {op : BoolOp} {e : Expr} {x : X} : Sound cx ε e x → SoundB cx ε op [e] x
  | and {e : Expr} {x : X} {es : List Expr} {y : X} : Sound cx ε e x → SoundB cx ε .And es y → SoundB cx ε .And (e :: es) (.and x y)
  | or {e : Expr} {x : X} {es : List Expr} {y : X} : Sound cx ε e x → SoundB cx ε .Or es y → SoundB cx ε .Or (e :: es) (.or x y)
theorem SoundB.ne {op : BoolOp} {es : List Expr} {x : X} (h : SoundB cx ε op es x) : ∃ e r, es = e :: r := by cases h <;> exact ⟨_, _, rfl⟩
theorem zek {pos : Pos} {op : BoolOp} {x y : Sem Value} {r : List (Sem Value)} : boolOp pos op (x :: y :: r) = (do
    let v ← x
    standAt pos
    let t ← holding [v] (truthy v)
    match op, t with
    | .And, false | .Or, true => pure v
    | _, _ => boolOp pos op (y :: r)) := rfl
theorem zkz {n cf A env} {pos : Pos} {op : BoolOp} {es : List Expr} {x : X} (h : SoundB cx ε op es x) :
    ∀ F s ρ ad m cm, Here cx ε n cf A env F s ρ ad m cm → ∀ r, ev cf x ρ = some [r] → Ev cx A F s (boolOp pos op (evalEach es env)) r := by
  induction h with
  | one h => intro F s ρ ad m cm H r hr; exact h.ev n cf A env F s ρ ad m cm H r hr
  | @and e x es y h1 h2 ih =>
    intro F s ρ ad m cm H r hr Q E hQ
    obtain ⟨e2, r2, rfl⟩ := h2.ne
    show wpAny _ _ (boolOp pos .And (eval e env :: eval e2 env :: evalEach r2 env)) Q E s
    rw [zek]
    replace hr := (za4 _).symm.trans hr
    split at hr
    · rename_i x1 e1
      refine Ev.bind (h1.ev n cf A env F s ρ ad m cm H x1 e1) fun v F' s' st q => ?_
      refine wb (wpAny_standAt (wb (wpAny_holding ?_)))
      split at hr
      · rename_i hb
        refine zbq st.wd q.brep hb _ _ fun F'' s'' st' => ?_
        exact ih F'' s'' ρ ad m cm ((H.step st).step st') r hr _ _ (hQ.after (st.trans st'))
      · rename_i hb
        cases hr
        refine zbq st.wd q.brep hb _ _ fun F'' s'' st' => ?_
        exact wpAny_pure (hQ v F'' s'' (st.trans st') (q.step st' st.wd))
      · cases hr
    · cases hr
  | @or e x es y h1 h2 ih =>
    intro F s ρ ad m cm H r hr Q E hQ
    obtain ⟨e2, r2, rfl⟩ := h2.ne
    show wpAny _ _ (boolOp pos .Or (eval e env :: eval e2 env :: evalEach r2 env)) Q E s
    rw [zek]
    replace hr := (zbD _).symm.trans hr
    split at hr
    · rename_i x1 e1
      refine Ev.bind (h1.ev n cf A env F s ρ ad m cm H x1 e1) fun v F' s' st q => ?_
      refine wb (wpAny_standAt (wb (wpAny_holding ?_)))
      split at hr
      · rename_i hb
        refine zbq st.wd q.brep hb _ _ fun F'' s'' st' => ?_
        exact ih F'' s'' ρ ad m cm ((H.step st).step st') r hr _ _ (hQ.after (st.trans st'))
      · rename_i hb
        cases hr
        refine zbq st.wd q.brep hb _ _ fun F'' s'' st' => ?_
        exact wpAny_pure (hQ v F'' s'' (st.trans st') (q.step st' st.wd))
      · cases hr
    · cases hr
theorem ziQ {n cf A env} {op : BoolOp} {es : List Expr} {x : X} (h : SoundB cx ε op es x) :
    ∀ F s ρ ad m cm, Here cx ε n cf A env F s ρ ad m cm → ∀ b, evT cf x ρ = some b → EvB cx A F s (allTrue op es env) b := by
  induction h with
  | @one op e x h =>
    intro F s ρ ad m cm H b hb Q E hQ
    show wpAny _ _ (do
      match op, ← isTrue e env (eval e env) with
      | .And, false => pure false
      | .Or, true => pure true
      | _, _ => allTrue op [] env) Q E s
    refine wb (h.tr n cf A env F s ρ ad m cm H b hb _ _ fun F' s' st => ?_)
    cases op <;> cases b <;> exact wpAny_pure (hQ F' s' st)
  | @and e x es y h1 h2 ih =>
    intro F s ρ ad m cm H b hb Q E hQ
    show wpAny _ _ (do
      match BoolOp.And, ← isTrue e env (eval e env) with
      | .And, false => pure false
      | .Or, true => pure true
      | _, _ => allTrue .And es env) Q E s
    unfold evT at hb
    rw [za4] at hb
    split at hb
    · rename_i x1 e1
      split at hb
      · rename_i hb'
        refine wb (h1.tr n cf A env F s ρ ad m cm H true (by unfold evT truthR; rw [e1]; exact hb') _ _ fun F' s' st => ?_)
        exact ih F' s' ρ ad m cm (H.step st) b hb _ _ fun F'' s'' st' => hQ F'' s'' (st.trans st')
      · rename_i hb'
        refine wb (h1.tr n cf A env F s ρ ad m cm H false (by unfold evT truthR; rw [e1]; exact hb') _ _ fun F' s' st => ?_)
        have : b = false := by
          have : some b = some false := hb.symm.trans hb'
          cases this; rfl
        subst this
        exact wpAny_pure (hQ F' s' st)
      · cases hb
    · cases hb
  | @or e x es y h1 h2 ih =>
    intro F s ρ ad m cm H b hb Q E hQ
    show wpAny _ _ (do
      match BoolOp.Or, ← isTrue e env (eval e env) with
      | .And, false => pure false
      | .Or, true => pure true
      | _, _ => allTrue .Or es env) Q E s
    unfold evT at hb
    rw [zbD] at hb
    split at hb
    · rename_i x1 e1
      split at hb
      · rename_i hb'
        refine wb (h1.tr n cf A env F s ρ ad m cm H false (by unfold evT truthR; rw [e1]; exact hb') _ _ fun F' s' st => ?_)
        exact ih F' s' ρ ad m cm (H.step st) b hb _ _ fun F'' s'' st' => hQ F'' s'' (st.trans st')
      · rename_i hb'
        refine wb (h1.tr n cf A env F s ρ ad m cm H true (by unfold evT truthR; rw [e1]; exact hb') _ _ fun F' s' st => ?_)
        have : b = true := by
          have : some b = some true := hb.symm.trans hb'
          cases this; rfl
        subst this
        exact wpAny_pure (hQ F' s' st)
      · cases hb
    · cases hb
theorem zap {op : BoolOp} {es : List Expr} {x : X} {pos : Pos} (h : SoundB cx ε op es x) : Sound cx ε (.BoolOp op es pos) x :=
  ⟨fun _ _ _ _ F s ρ ad m cm H r hr => zkz h F s ρ ad m cm H r hr, fun _ _ _ _ F s ρ ad m cm H b hb => ziQ h F s ρ ad m cm H b hb⟩
end
theorem zca {α : Type} {p : Prop} [Decidable p] {x y : α} (h : (if p then some x else none) = some y) : p ∧ x = y := by
  by_cases q : p
  · rw [if_pos q] at h; exact ⟨q, Option.some.inj h⟩
  · rw [if_neg q] at h; cases h
theorem zcP {f : D → D → Option R} {ds : List D} {r : R} (h : two f ds = some r) : ∃ a b, ds = [a, b] ∧ f a b = some r := by
  rcases ds with _ | ⟨a, _ | ⟨b, _ | ⟨c, t⟩⟩⟩ <;> first | exact ⟨a, b, rfl, h⟩ | cases h
theorem zcF {d : D} {i : Int} (h : intD d = some i) : d = .int i := by cases d <;> cases h; rfl
theorem zbw {d : D} {i : List Nat} (h : strO d = some i) : d = .str i := by cases d <;> cases h; rfl
theorem zlg {d : D} {i : List D} (h : lstO d = some i) : d = .list i := by cases d <;> cases h; rfl
theorem zhz {f : List Nat → List Nat → List Nat → Option R} {ds : List D} {r : R} (h : str3 f ds = some r) : ∃ a b c, ds = [.str a, .str b, .str c] ∧ f a b c = some r := by
  rcases ds with _ | ⟨a, _ | ⟨b, _ | ⟨c, _ | ⟨d, t⟩⟩⟩⟩
  case cons.cons.cons.nil =>
    obtain ⟨a, e, h⟩ := Option.bind_eq_some_iff.mp h
    obtain ⟨b, e2, h⟩ := Option.bind_eq_some_iff.mp h
    obtain ⟨c, e3, h⟩ := Option.bind_eq_some_iff.mp h
    exact ⟨a, b, c, by rw [zbw e, zbw e2, zbw e3], h⟩
  all_goals cases h
theorem zdX {f : Int → Int → Option R} {ds : List D} {r : R} (h : int2 f ds = some r) : ∃ a b, ds = [.int a, .int b] ∧ f a b = some r := by
  obtain ⟨a, b, rfl, h⟩ := zcP h
  obtain ⟨i, e, h⟩ := Option.bind_eq_some_iff.mp h
  obtain ⟨j, e2, h⟩ := Option.bind_eq_some_iff.mp h
  exact ⟨i, j, by rw [zcF e, zcF e2], h⟩
section
variable {cx : XCx}
theorem zaH : OpOK cx .add (op2 (binaryOp .Add)) := by
  intro n A F s vs ds r ok bud w q he Q E hQ
  obtain ⟨a, b, rfl, he⟩ := zcP (f := addD) he
  obtain ⟨x, y, rfl, qa, qb⟩ := q.two
  cases a with
  | int a =>
    obtain ⟨b, e, he⟩ := Option.bind_eq_some_iff.mp he
    cases zcF e
    cases he
    obtain ⟨t, rfl⟩ := qa.int_inv
    obtain ⟨u, rfl⟩ := qb.int_inv
    exact P.add_int (hQ _ F _ ((Step.refl w).toks _) (.val (.int _ _)))
  | str a =>
    obtain ⟨b, e, he⟩ := Option.bind_eq_some_iff.mp he
    cases zbw e
    obtain ⟨hl, rfl⟩ := zca he
    obtain ⟨t, rfl, pa, za⟩ := qa.str_inv
    obtain ⟨u, rfl, pb, zb⟩ := qb.str_inv
    refine PyProof.Rows.add_str (fun t' tk => hQ _ F _ ((Step.refl w).toks _) (.val ?_)) (by
      show a.toArray.size + b.toArray.size ≤ sizeLine
      rw [List.size_toArray, List.size_toArray]; exact zaC hl)
    rw [show (PySem.Str.mk a.toArray ++ PySem.Str.mk b.toArray) = PySem.Str.mk (a ++ b).toArray from congrArg PySem.Str.mk (by simp)]
    exact .str _ (fun c hc => (List.mem_append.mp hc).elim (pa c) (pb c)) (by rw [List.length_append]; exact hl)
  | list a =>
    obtain ⟨b, e, he⟩ := Option.bind_eq_some_iff.mp he
    cases zlg e
    obtain ⟨hl, rfl⟩ := zca he
    obtain ⟨l, vs, k, rfl, nx, g, z, q1⟩ := qa.list_inv w
    obtain ⟨l', vs', k', rfl, nx', g', z', q2⟩ := qb.list_inv w
    have hz : (vs ++ vs').length ≤ lim := by rw [List.length_append, q1.length, q2.length]; exact hl
    have ea : vs.toArray ++ vs'.toArray = (vs ++ vs').toArray := by simp
    refine concat_meets ⟨_, g, rfl⟩ ⟨_, g', rfl⟩ noFill_list_add seq_list_add PySem.F.slot_list_add PySem.F.entry_list_add (PySem.F.args_list_add_2 _ _) (list_addW l l' vs.toArray vs'.toArray k k' none none #[] #[] (by rw [List.size_toArray, List.size_toArray, ← List.length_append]; exact zaC hz)) ⟨g, g', ?_⟩
    rw [ea]
    exact hQ _ F _ (Step.push ok w _ _) (.pushOwn w hz (q1.append q2))
  | _ => cases he
theorem op_sub : OpOK cx .sub (op2 (binaryOp .Sub)) := by
  intro n A F s vs ds r ok bud w q he Q E hQ
  obtain ⟨a, b, rfl, he⟩ := zdX (show opSub ds = some r from he)
  cases he
  obtain ⟨x, y, rfl, qa, qb⟩ := q.two
  obtain ⟨t, rfl⟩ := qa.int_inv
  obtain ⟨u, rfl⟩ := qb.int_inv
  exact P.sub_int (hQ _ F _ ((Step.refl w).toks _) (.val (.int _ _)))
theorem zgb : OpOK cx .neg (op1 (unaryOp .USub)) := by
  intro n A F s vs ds r ok bud w q he Q E hQ
  delta opF at he; dsimp only at he
  unfold opNeg at he
  split at he <;> cases he
  obtain ⟨x, rfl, qa⟩ := q.one
  obtain ⟨t, rfl⟩ := qa.int_inv
  exact P.neg_int (hQ _ F _ ((Step.refl w).toks _) (.val (.int _ _)))
theorem op_div : OpOK cx .fdiv (op2 (binaryOp .FloorDiv)) := by
  intro n A F s vs ds r ok bud w q he Q E hQ
  obtain ⟨a, b, rfl, he⟩ := zdX (show opDiv ds = some r from he)
  by_cases hb : b = 0
  · cases (if_pos hb).symm.trans he
  cases (if_neg hb).symm.trans he
  obtain ⟨x, y, rfl, qa, qb⟩ := q.two
  obtain ⟨t, rfl⟩ := qa.int_inv
  obtain ⟨u, rfl⟩ := qb.int_inv
  obtain ⟨env, l, e1, e2, e3, e4, e5⟩ := bud.fr
  refine PyProof.Rows.floordiv_int hb (hQ _ F _ ((Step.refl w).toks _) (.val (.int _ _))) (.inr (PylongRoom.of (w.lim ok) ?_ (SeerAt.of (ok.seer _ w.base) ok.tree e1 e2 e3 e4 e5)))
  exact Nat.lt_of_le_of_lt (Nat.add_le_add_right (Nat.le_of_lt (Nat.lt_of_le_of_lt (Nat.le_add_right _ _) bud.dp)) 100) (by decide)
theorem zlH : OpOK cx .mod (op2 (binaryOp .Mod)) := by
  intro n A F s vs ds r ok bud w q he Q E hQ
  obtain ⟨a, b, rfl, he⟩ := zdX (show opMod ds = some r from he)
  by_cases hb : b = 0
  · cases (if_pos hb).symm.trans he
  cases (if_neg hb).symm.trans he
  obtain ⟨x, y, rfl, qa, qb⟩ := q.two
  obtain ⟨t, rfl⟩ := qa.int_inv
  obtain ⟨u, rfl⟩ := qb.int_inv
  exact PyProof.Rows.mod_int' hb (hQ _ F _ ((Step.refl w).toks _) (.val (.int _ _)))
theorem ze4 {op : CmpOp} {f : D → D → Option Bool} {vs : List Value} {ds : List D} {F : AP} {s : Shared} {A : Around} {r : R} (w : Wd cx F s) (q : BRepL cx F s.heap vs ds) (he : opBool f ds = some r)
    (h : ∀ x y a b c, BRep cx F s.heap x a → BRep cx F s.heap y b → f a b = some c → ∀ (Q E : VP), (∀ k, Q (.bool c) { s with toks := k }) → wpAny (model cx.prog cx.w) A (compareOp op x y) Q E s) :
    Ev cx A F s (op2 (compareOp op) vs) r := by
  intro Q E hQ
  unfold opBool at he
  split at he
  · obtain ⟨c, hc, e⟩ := Option.map_eq_some_iff.mp he
    cases e
    obtain ⟨x, y, rfl, qa, qb⟩ := q.two
    exact h x y _ _ c qa qb hc Q E fun k => hQ _ F _ ((Step.refl w).toks k) (.val (.bool _))
  · cases he
theorem BRep.reads {F : AP} {h : Heap} {v : Value} {d : D} {n : Nat} (q : BRep cx F h v d) (e : d.ok n = true) (hn : n ≤ 60) : (∃ as, Reads h v d.toPy as) ∧ PySem.SeqAt.shaped d.toPy = true := by
  cases q with
  | rep q => exact ⟨q.reads e, q.shaped e hn⟩
  | own nx g z q =>
    cases n with
    | zero => simp [D.ok] at e
    | succ n =>
      simp only [D.ok] at e
      obtain ⟨as, x⟩ := q.reads e
      refine ⟨⟨_, by unfold D.toPy; exact Reads.list g rfl rfl (by rw [List.toList_toArray]; exact x)⟩, ?_⟩
      have l := q.lay e
      unfold PySem.SeqAt.shaped D.toPy PyData.canLay0 PyData.depth
      rw [l.1, Bool.true_and]; exact decide_eq_true (by omega)
theorem zgh (a b : List Nat) : ((PySem.Str.mk a.toArray).cps.toList == (PySem.Str.mk b.toArray).cps.toList) = decide (a = b) := by
  show (a == b) = decide (a = b)
  by_cases h : a = b
  · subst h; simp
  · simp [h]
theorem eq_ok {F : AP} {s : Shared} {A : Around} {n : Nat} {x y : Value} {a b : D} {c : Bool} (bud : BudE n A) (qa : BRep cx F s.heap x a) (qb : BRep cx F s.heap y b) (hc : eqD a b = some c)
    {Q E : VP} (h : ∀ k, Q (.bool c) { s with toks := k }) : wpAny (model cx.prog cx.w) A (compareOp .Eq x y) Q E s := by
  unfold eqD at hc
  split at hc
  · cases hc
    obtain ⟨t, rfl, _, _⟩ := qa.str_inv
    obtain ⟨u, rfl, _, _⟩ := qb.str_inv
    exact P.eq_str (by rw [zgh]; exact h s.toks)
  · cases hc
    obtain ⟨t, rfl⟩ := qa.int_inv
    obtain ⟨u, rfl⟩ := qb.int_inv
    exact P.eq_int (by rw [show ∀ i j : Int, (i == j) = decide (i = j) from fun i j => rfl]; exact h s.toks)
  · split at hc <;> cases hc
    rename_i hok
    simp only [Bool.and_eq_true] at hok
    obtain ⟨⟨as, ra⟩, sa⟩ := qa.reads hok.1 (by decide)
    obtain ⟨⟨bs, rb⟩, sb⟩ := qb.reads hok.2 (by decide)
    exact PyProof.Rows.eq_dataH ra rb sa sb (bud.lt (by decide)) (h s.toks)
theorem ne_ok {F : AP} {s : Shared} {A : Around} {n : Nat} {x y : Value} {a b : D} {c : Bool} (bud : BudE n A) (qa : BRep cx F s.heap x a) (qb : BRep cx F s.heap y b) (hc : eqD a b = some c)
    {Q E : VP} (h : ∀ k, Q (.bool (!c)) { s with toks := k }) : wpAny (model cx.prog cx.w) A (compareOp .NotEq x y) Q E s := by
  unfold eqD at hc
  split at hc
  · cases hc
    obtain ⟨t, rfl, _, _⟩ := qa.str_inv
    obtain ⟨u, rfl, _, _⟩ := qb.str_inv
    exact P.ne_str (by show Q (.bool (!(_ == _))) s; rw [zgh]; exact h s.toks)
  · cases hc
    obtain ⟨t, rfl⟩ := qa.int_inv
    obtain ⟨u, rfl⟩ := qb.int_inv
    exact P.ne_int (by show Q (.bool (!(_ == _))) s; exact h s.toks)
  · split at hc <;> cases hc
    rename_i hok
    simp only [Bool.and_eq_true] at hok
    obtain ⟨⟨as, ra⟩, sa⟩ := qa.reads hok.1 (by decide)
    obtain ⟨⟨bs, rb⟩, sb⟩ := qb.reads hok.2 (by decide)
    exact PyProof.Rows.ne_dataH ra rb sa sb (bud.lt (by decide)) (h s.toks)
theorem op_eq : OpOK cx .eq (op2 (compareOp .Eq)) := by
  intro n A F s vs ds r ok bud w q he
  exact ze4 w q he fun x y a b c qa qb hc Q E h => eq_ok bud qa qb hc h
theorem op_ne : OpOK cx .ne (op2 (compareOp .NotEq)) := by
  intro n A F s vs ds r ok bud w q he
  refine ze4 w q he fun x y a b c qa qb hc Q E h => ?_
  obtain ⟨c', hc', rfl⟩ := Option.map_eq_some_iff.mp hc
  exact ne_ok bud qa qb hc' h
theorem in_ok {F : AP} {s : Shared} {A : Around} {n : Nat} {x y : Value} {a b : D} {c : Bool} (w : Wd cx F s) (bud : BudE n A) (qa : BRep cx F s.heap x a) (qb : BRep cx F s.heap y b) (hc : inD a b = some c)
    {Q E : VP} (h : ∀ k, Q (.bool c) { s with toks := k }) : wpAny (model cx.prog cx.w) A (compareOp .In x y) Q E s := by
  have hu : A.units + 65 < cLine := bud.lt (by decide)
  unfold inD at hc
  split at hc
  · rename_i l
    split at hc <;> cases hc
    rename_i hok
    simp only [Bool.and_eq_true] at hok
    obtain ⟨⟨as, ra⟩, sa⟩ := qa.reads hok.2 (by decide)
    obtain ⟨⟨bs, rb⟩, sb⟩ := qb.reads (n := 9) (by simp only [D.ok]; exact hok.1) (by decide)
    unfold D.toPy at rb sb
    have l1 := SeqAt.canLay_of_shaped sb
    have l2 := SeqAt.canLay_of_shaped sa
    have l3 := SeqAt.depth_of_shaped sa
    have l4 := Nat.min_le_right (PyData.depthAll (D.toPys l)) a.toPy.depth
    exact SeqAt.in_list_reads rb ra l1 l2 (by show A.units + 1 + _ < 9900; have := bud.un; omega) (h s.toks)
  · rename_i l
    split at hc <;> cases hc
    rename_i hok
    simp only [Bool.and_eq_true] at hok
    obtain ⟨⟨as, ra⟩, sa⟩ := qa.reads hok.2 (by decide)
    obtain ⟨⟨bs, rb⟩, sb⟩ := qb.reads (n := 9) (by simp only [D.ok]; exact hok.1) (by decide)
    unfold D.toPy at rb sb
    have l1 := SeqAt.canLay_of_shaped sb
    have l2 := SeqAt.canLay_of_shaped sa
    have l3 := SeqAt.depth_of_shaped sa
    have l4 := Nat.min_le_right (PyData.depthAll (D.toPys l)) a.toPy.depth
    exact SeqAt.in_tuple_reads rb ra l1 l2 (by show A.units + 1 + _ < 9900; have := bud.un; omega) (h s.toks)
  · split at hc <;> cases hc
    obtain ⟨t, rfl, _, _⟩ := qa.str_inv
    obtain ⟨u, rfl, _, _⟩ := qb.str_inv
    exact P.in_str (h s.toks)
  · cases hc
theorem zk8 {F : AP} {s : Shared} {A : Around} {n : Nat} {x y : Value} {a b : D} {c : Bool} (w : Wd cx F s) (bud : BudE n A) (qa : BRep cx F s.heap x a) (qb : BRep cx F s.heap y b) (hc : inD a b = some c)
    {Q E : VP} (h : ∀ k, Q (.bool (!c)) { s with toks := k }) : wpAny (model cx.prog cx.w) A (compareOp .NotIn x y) Q E s := by
  have hu : A.units + 65 < cLine := bud.lt (by decide)
  unfold inD at hc
  split at hc
  · rename_i l
    split at hc <;> cases hc
    rename_i hok
    simp only [Bool.and_eq_true] at hok
    obtain ⟨⟨as, ra⟩, sa⟩ := qa.reads hok.2 (by decide)
    obtain ⟨⟨bs, rb⟩, sb⟩ := qb.reads (n := 9) (by simp only [D.ok]; exact hok.1) (by decide)
    unfold D.toPy at rb sb
    have l1 := SeqAt.canLay_of_shaped sb
    have l2 := SeqAt.canLay_of_shaped sa
    have l3 := SeqAt.depth_of_shaped sa
    have l4 := Nat.min_le_right (PyData.depthAll (D.toPys l)) a.toPy.depth
    exact SeqAt.notIn_list_reads rb ra l1 l2 (by show A.units + 1 + _ < 9900; have := bud.un; omega) (h s.toks)
  · rename_i l
    split at hc <;> cases hc
    rename_i hok
    simp only [Bool.and_eq_true] at hok
    obtain ⟨⟨as, ra⟩, sa⟩ := qa.reads hok.2 (by decide)
    obtain ⟨⟨bs, rb⟩, sb⟩ := qb.reads (n := 9) (by simp only [D.ok]; exact hok.1) (by decide)
    unfold D.toPy at rb sb
    have l1 := SeqAt.canLay_of_shaped sb
    have l2 := SeqAt.canLay_of_shaped sa
    have l3 := SeqAt.depth_of_shaped sa
    have l4 := Nat.min_le_right (PyData.depthAll (D.toPys l)) a.toPy.depth
    exact SeqAt.notIn_tuple_reads rb ra l1 l2 (by show A.units + 1 + _ < 9900; have := bud.un; omega) (h s.toks)
  · split at hc <;> cases hc
    obtain ⟨t, rfl, _, _⟩ := qa.str_inv
    obtain ⟨u, rfl, _, _⟩ := qb.str_inv
    exact P.notIn_str (h s.toks)
  · cases hc
theorem op_in : OpOK cx .in_ (op2 (compareOp .In)) := by
  intro n A F s vs ds r ok bud w q he
  exact ze4 w q he fun x y a b c qa qb hc Q E h => in_ok w bud qa qb hc h
theorem zda : OpOK cx .notin (op2 (compareOp .NotIn)) := by
  intro n A F s vs ds r ok bud w q he
  refine ze4 w q he fun x y a b c qa qb hc Q E h => ?_
  obtain ⟨c', hc', rfl⟩ := Option.map_eq_some_iff.mp hc
  exact zk8 w bud qa qb hc' h
theorem zhF {op : CmpOp} {f : Int → Int → Bool} {g : List Nat → List Nat → Bool} {vs : List Value} {ds : List D} {F : AP} {s : Shared} {A : Around} {r : R} (w : Wd cx F s) (q : BRepL cx F s.heap vs ds) (he : opCmp f g ds = some r)
    (h1 : ∀ a b t u (Q E : VP), Q (.bool (f a b)) s → wpAny (model cx.prog cx.w) A (compareOp op (.int a t) (.int b u)) Q E s)
    (h2 : ∀ a b t u (Q E : VP), Q (.bool (g a b)) s → wpAny (model cx.prog cx.w) A (compareOp op (.str ⟨a.toArray⟩ t) (.str ⟨b.toArray⟩ u)) Q E s) :
    Ev cx A F s (op2 (compareOp op) vs) r := by
  intro Q E hQ
  obtain ⟨a, b, rfl, he⟩ := zcP (show two (cmpD f g) ds = some r from he)
  obtain ⟨x, y, rfl, qa, qb⟩ := q.two
  cases a with
  | int a =>
    obtain ⟨b, e, he⟩ := Option.bind_eq_some_iff.mp he
    cases zcF e
    cases he
    obtain ⟨t, rfl⟩ := qa.int_inv
    obtain ⟨u, rfl⟩ := qb.int_inv
    exact h1 _ _ _ _ _ _ (hQ _ F _ (Step.refl w) (.val (.bool _)))
  | str a =>
    obtain ⟨b, e, he⟩ := Option.bind_eq_some_iff.mp he
    cases zbw e
    cases he
    obtain ⟨t, rfl, _, _⟩ := qa.str_inv
    obtain ⟨u, rfl, _, _⟩ := qb.str_inv
    exact h2 _ _ _ _ _ _ (hQ _ F _ (Step.refl w) (.val (.bool _)))
  | _ => cases he
theorem op_lt : OpOK cx .lt (op2 (compareOp .Lt)) := fun n A F s vs ds r ok bud w q he =>
  zhF w q he (fun _ _ _ _ _ _ h => P.lt_int h) fun _ _ _ _ _ _ h => P.lt_str h
theorem op_le : OpOK cx .le (op2 (compareOp .LtE)) := fun n A F s vs ds r ok bud w q he =>
  zhF w q he (fun _ _ _ _ _ _ h => P.le_int h) fun _ _ _ _ _ _ h => P.le_str h
theorem op_gt : OpOK cx .gt (op2 (compareOp .Gt)) := fun n A F s vs ds r ok bud w q he =>
  zhF w q he (fun _ _ _ _ _ _ h => P.gt_int h) fun _ _ _ _ _ _ h => P.gt_str h
theorem op_ge : OpOK cx .ge (op2 (compareOp .GtE)) := fun n A F s vs ds r ok bud w q he =>
  zhF w q he (fun _ _ _ _ _ _ h => P.ge_int h) fun _ _ _ _ _ _ h => P.ge_str h
end
end Mine
end
section
open PySem PySem.Calls PyProof.Rows PySem.Builtin.Str
namespace Mine
section
variable {cx : XCx}
theorem zdT {i : Int} (h : small i = true) : -1000000000 ≤ i ∧ i ≤ 1000000000 := by
  unfold small at h
  simpa [Bool.and_eq_true, decide_eq_true_eq] using h
theorem zkV (i : Int) (n : Nat) : place i n = seqIndex? i n := by
  rcases Int.lt_or_le i 0 with h | h
  · have h0 : ¬ 0 ≤ i := by omega
    simp only [place, seqIndex?, if_neg h0, if_pos h]
    by_cases h2 : 0 ≤ i + n
    · have h3 : i + n < n := by omega
      simp [h2, h3]
    · simp [h2]
  · have h0 : ¬ i < 0 := by omega
    simp only [place, seqIndex?, if_pos h, if_neg h0]
    by_cases h2 : i < n
    · simp [h, h2]
    · simp [h2]
theorem zd5 {α β : Type} {l : List α} {i : Int} {f : α → β} {r : β} (h : (match place i l.length with | some k => (l[k]?).map f | none => none) = some r) : ∃ k d, seqIndex? i l.length = some k ∧ l[k]? = some d ∧ f d = r := by
  cases e : place i l.length with
  | none => rw [e] at h; cases h
  | some k =>
    rw [e] at h
    obtain ⟨d, h1, h2⟩ := Option.map_eq_some_iff.mp h
    exact ⟨k, d, zkV i _ ▸ e, h1, h2⟩
theorem zjU {s : Shared} {A : Around} {l : Addr} {items : Array Value} {i : Int} {t : Tok} {j : Nat} {x : Value} {Q E : VP} (hl : s.heap.IsList l items) (h1 : -2 ^ 63 ≤ i) (h2 : i < 2 ^ 63) (hj : seqIndex? i items.size = some j) (hx : items[j]? = some x) (h : Q x s) :
    wpAny (model cx.prog cx.w) A (getItem (.ref l) (.int i t)) Q E s := by
  obtain ⟨hc, e⟩ := zca (show (if _ then some (if i < 0 then i + items.size else i).toNat else none) = some j from hj)
  by_cases h0 : i < 0
  · rw [if_pos h0] at e hc
    have hc := of_decide_eq_true ((Bool.and_eq_true _ _).mp hc).1
    exact wpAny_getItem_list_neg hl h0 (Int.neg_le_of_neg_le (by omega)) h1 (by rw [e]; exact hx) h
  · rw [if_neg h0] at e
    exact wpAny_getItem_list hl (Int.not_lt.mp h0) h2 (by rw [e]; exact hx) h
theorem zk3 : OpOK cx .index (op2 getItem) := by
  intro n A F s vs ds r ok bud w q he Q E hQ
  obtain ⟨a, b, rfl, he⟩ := zcP (show opIndex ds = some r from he)
  obtain ⟨i, e, he⟩ := Option.bind_eq_some_iff.mp he
  cases zcF e
  obtain ⟨x, y, rfl, qa, qb⟩ := q.two
  obtain ⟨u, rfl⟩ := qb.int_inv
  by_cases hs : small i = true
  · replace he := (if_pos hs).symm.trans he
    obtain ⟨h1, h2⟩ := zdT hs
    have h1 : -2 ^ 63 ≤ i := Int.le_trans (by decide) h1
    have h2 : i < 2 ^ 63 := Int.lt_of_le_of_lt h2 (by decide)
    clear hs
    cases a with
    | str l =>
      obtain ⟨k, c, hk, hc, rfl⟩ := zd5 he
      obtain ⟨t, rfl, p, z⟩ := qa.str_inv
      refine P.getItem_str (c := c) (by rw [decide_eq_false (Int.not_lt.mpr h1), decide_eq_false (Int.not_le.mpr h2)]; rfl) ?_ (hQ _ F _ ((Step.refl w).toks _) (.val (Rep.str (l := [c]) _ (fun d hd => by rw [List.mem_singleton.mp hd]; exact p c (List.mem_of_getElem? hc)) (by show 1 ≤ lim; decide))))
      show (seqIndex? i l.toArray.size).bind _ = _
      rw [List.size_toArray, hk]
      exact (List.getElem?_toArray ..).trans hc
    | list l =>
      obtain ⟨k, d, hk, hc, rfl⟩ := zd5 he
      obtain ⟨a, ws, m, rfl, nx, g, z, ql⟩ := qa.list_inv w
      obtain ⟨v, hv, rv⟩ := ql.get hc
      exact zjU (zaB g) h1 h2 (by rw [List.size_toArray, ql.length]; exact hk) ((List.getElem?_toArray ..).trans hv) (hQ _ F _ (Step.refl w) (.val rv))
    | tup l =>
      obtain ⟨k, d, hk, hc, rfl⟩ := zd5 he
      obtain ⟨a, ws, m, rfl, f, g, z, ql⟩ := qa.tup_inv
      obtain ⟨v, hv, rv⟩ := ql.get hc
      exact PyProof.Rows.getItem_tuple (zfF g) h1 h2 (by rw [List.size_toArray, ql.length]; exact hk) ((List.getElem?_toArray ..).trans hv) (hQ _ F _ (Step.refl w) (.val rv))
    | _ => cases he
  · cases (if_neg hs).symm.trans he
theorem clip_eq (i : Int) (n : Nat) : clip i n = clipAt n i := by
  unfold clip clipAt
  by_cases h : i < 0
  · rw [if_pos h, if_pos h, Int.min_eq_left (by have := Int.add_le_add_right (Int.le_of_lt h) (n : Int); rwa [Int.zero_add] at this)]
    rcases Int.le_total 0 (i + n) with q | q
    · rw [Int.max_eq_right q]
    · rw [Int.max_eq_left q, Int.toNat_of_nonpos q]; rfl
  · rw [if_neg h, if_neg h]
    by_cases g : i < n
    · rw [if_pos g, Int.min_eq_left (Int.le_of_lt g), Int.max_eq_right (Int.not_lt.mp h)]
    · rw [if_neg g, Int.min_eq_right (Int.not_lt.mp g), Int.max_eq_right (Int.natCast_nonneg n)]; rfl
theorem zd6 {F : AP} {h : Heap} {v : Value} {d : D} {o : Option Int} (q : BRep cx F h v d) (e : partD d = some o) : IsPart v o ∧ (∃ p : Option (Int × Tok), v = partValue p ∧ p.map (·.1) = o) := by
  cases d <;> try (cases e; done)
  · cases e; rw [q.none_inv]; exact ⟨.none, none, rfl, rfl⟩
  · rename_i i
    replace e : (if small i then some (some i) else none) = some o := e
    split at e <;> cases e
    obtain ⟨t, rfl⟩ := q.int_inv
    exact ⟨.int _ t, some (_, t), rfl, rfl⟩
theorem zcH {d : D} {k n b : Nat} (h : bound d k n = some b) : ∃ o, partD d = some o ∧ b = o.elim k (clipAt n) := by
  cases d <;> try (cases h; done)
  · cases h; exact ⟨none, rfl, rfl⟩
  · rename_i i
    replace h : (if small i then some (clip i n) else none) = some b := h
    split at h <;> cases h
    rename_i hi
    exact ⟨some i, if_pos hi, clip_eq _ _⟩
theorem zdF (vs : List Value) (lo hi st : Option Int) : slicePick vs.toArray lo hi st = (pick vs lo hi st).toArray := by
  unfold slicePick pick
  simp only [List.size_toArray]
  have e : (fun a : Nat => vs.toArray[a]?) = fun a => vs[a]? := by funext a; simp
  rw [e]
theorem RepL.pick {T : NAd} {F : AP} {h : Heap} {vs : List Value} {ds : List D} (r : RepL T F h vs ds) (lo hi st : Option Int) : RepL T F h (pick vs lo hi st) (Mine.pick ds lo hi st) := by
  unfold Mine.pick
  rw [r.length]
  exact r.pickAt _
theorem zbR {α : Type} (l : List α) (lo hi : Option Int) : pick l lo hi none = cut l (lo.elim 0 (clipAt l.length)) (hi.elim l.length (clipAt l.length)) := by
  unfold pick cut
  rw [sliceBounds_plain]
  simp only [sliceRange_one]
  have := pick_run l.toArray (lo.elim 0 (clipAt l.length)) (hi.elim l.length (clipAt l.length) - lo.elim 0 (clipAt l.length))
  simp only [List.getElem?_toArray] at this
  exact this
theorem zff (l : List Nat) (lo hi : Option Int) : ((strSliceIndices lo hi 1 l.length).filterMap (l[·]?)) = pick l lo hi none := rfl
theorem zg5 {α : Type} (l : List α) (lo hi : Option Int) : (pick l lo hi none).length ≤ l.length := by
  rw [zbR]; unfold cut
  exact Nat.le_trans (List.length_take_le' _ _) (by rw [List.length_drop]; exact Nat.sub_le _ _)
theorem zeP {F : AP} {s : Shared} {A : Around} {E : VP} {Q : VP} (ok : CxOk cx) (w : Wd cx F s) {a sl : Addr} {vs : List Value} {n : Nat} {l : List D} {vl vu vst : Value} {lo hi st : Option Int}
    (g : s.heap.get? a = some (lobj vs.toArray n)) (z : vs.length ≤ lim) (q : RepL cx.T F s.heap vs l) (hs : s.heap.IsSliceOf sl vl vu vst) (pl : IsPart vl lo) (pu : IsPart vu hi) (ps : IsPart vst st) (h0 : st ≠ some 0)
    (hQ : Post cx F s (.own (pick l lo hi st)) Q) : wpAny (model cx.prog cx.w) A (getItem (.ref a) (.ref sl)) Q E s := by
  refine wpAny_getItem_list_slice (zaB g) hs pl pu ps h0 ?_ (by rw [List.size_toArray]; exact zaC z)
  have hsz : (pick vs lo hi st).length ≤ lim := by
    have := slicePick_size_le vs.toArray lo hi st
    rw [zdF, List.size_toArray, List.size_toArray] at this
    exact Nat.le_trans this z
  rw [zdF]
  refine hQ _ F _ (Step.push ok w _ _) (.pushOwn w hsz (q.pick lo hi st))
theorem zkw (n : Nat) (i : Int) : clipAt n i ≤ n := by
  rw [← clip_eq]
  unfold clip
  by_cases h : i < 0
  · rw [if_pos h]
    exact Int.toNat_le.mpr (by have := Int.add_le_add_right (Int.le_of_lt h) (n : Int); rwa [Int.zero_add] at this)
  · rw [if_neg h]
    by_cases g : i < n
    · rw [if_pos g]; exact Int.toNat_le.mpr (Int.le_of_lt g)
    · rw [if_neg g]; exact Nat.le_refl _
theorem zkN {a b n : Nat} (h2 : b - a = n) (hb : b ≤ n) (h : 0 < n) : a = 0 := by omega
theorem zjb {F : AP} {s : Shared} {A : Around} {E : VP} {Q : VP} (w : Wd cx F s) {sl : Addr} {l : List Nat} {t : Tok} {pl pu : Option (Int × Tok)}
    (p : ∀ c ∈ l, c < 0x110000) (z : l.length ≤ lim) (hs : s.heap.IsSlice sl pl pu none) (hQ : Post cx F s (.val (.str (pick l (pl.map (·.1)) (pu.map (·.1)) none))) Q) :
    wpAny (model cx.prog cx.w) A (getItem (.str ⟨l.toArray⟩ t) (.ref sl)) Q E s := by
  refine wpAny_getItem_str_slice hs (by rfl) ?_
  have hsz := zg5 l (pl.map (·.1)) (pu.map (·.1))
  have hp : ∀ c ∈ pick l (pl.map (·.1)) (pu.map (·.1)) none, c < 0x110000 := fun c hc => by
    rw [zbR] at hc; unfold cut at hc
    exact p c (List.mem_of_mem_drop (List.mem_of_mem_take hc))
  have e0 : slicePicked ⟨l.toArray⟩ pl pu none = strSliceIndices (pl.map (·.1)) (pu.map (·.1)) 1 l.length := by
    unfold slicePicked
    show strSliceIndices _ _ 1 (l.toArray.size) = _
    rw [List.size_toArray]
  have e1 : ((slicePicked ⟨l.toArray⟩ pl pu none).filterMap ((PySem.Str.mk l.toArray).cps[·]?)) = pick l (pl.map (·.1)) (pu.map (·.1)) none := by
    rw [e0, ← zff]
    have e : (fun a : Nat => (PySem.Str.mk l.toArray).cps[a]?) = fun a => l[a]? := by funext a; simp
    rw [e]
  unfold sliceMade
  rw [e1]
  by_cases hc : ((((none : Option (Int × Tok)).map (·.1)).getD 1 == 1 && (slicePicked ⟨l.toArray⟩ pl pu none).length == (PySem.Str.mk l.toArray).length) = true)
  · rw [if_pos hc]
    simp only [Bool.and_eq_true, beq_iff_eq] at hc
    have h2 := hc.2
    rw [e0] at h2
    have e3 : strSliceIndices (pl.map (·.1)) (pu.map (·.1)) 1 l.length = sliceRange (sliceBounds (pl.map (·.1)) (pu.map (·.1)) none l.length).1 (sliceBounds (pl.map (·.1)) (pu.map (·.1)) none l.length).2.1 (sliceBounds (pl.map (·.1)) (pu.map (·.1)) none l.length).2.2 := rfl
    rw [e3, sliceBounds_plain, sliceRange_one, List.length_map, List.length_range] at h2
    have h3 : (PySem.Str.mk l.toArray).length = l.length := by show l.toArray.size = _; rw [List.size_toArray]
    rw [h3] at h2
    have hb : (pu.map (·.1)).elim l.length (clipAt l.length) ≤ l.length := by
      cases (pu.map (·.1)) with
      | none => exact Nat.le_refl _
      | some i => exact zkw _ _
    have : pick l (pl.map (·.1)) (pu.map (·.1)) none = l := by
      rw [zbR]
      unfold cut
      rcases Nat.eq_zero_or_pos l.length with h | h
      · rw [List.length_eq_zero_iff.mp h]; simp
      · have e2 : (pl.map (·.1)).elim 0 (clipAt l.length) = 0 := zkN h2 hb h
        rw [e2] at h2
        rw [e2, List.drop_zero, List.take_of_length_le (Nat.le_of_eq h2.symm)]
    rw [this] at hQ
    exact hQ _ F _ (Step.refl w) (.val (.str t p z))
  · rw [if_neg hc]
    exact ⟨Nat.le_trans (by show (List.toArray _).size ≤ l.length; rw [List.size_toArray]; exact hsz) (zaC z), hQ _ F _ ((Step.refl w).toks _) (.val (.str _ hp (Nat.le_trans hsz z)))⟩
end
section
variable {cx : XCx} {ε : Sc}
theorem zcf (slice : Expr) (o i : Value) : ∃ ops, subscripted slice false o i = operate ops (getItem o i) := by
  cases slice with
  | Slice l u st p => cases st <;> exact ⟨_, rfl⟩
  | _ => exact ⟨_, rfl⟩
noncomputable def seqD : D → Bool
  | .str _ | .list _ | .tup _ => true
  | _ => false
theorem zfd {F : AP} {s : Shared} {A : Around} {value slice : Expr} {o i : Value} {d : D} {Q E : VP} (w : Wd cx F s) (q : BRep cx F s.heap o d) (hd : seqD d = true)
    (h : wpAny (model cx.prog cx.w) A (getItem o i) Q E s) : wpAny (model cx.prog cx.w) A (subscriptTail value slice o i) Q E s := by
  obtain ⟨ops, hs⟩ := zcf slice o i
  cases d with
  | str l =>
    obtain ⟨t, rfl, _, _⟩ := q.str_inv
    exact tail_any (typeIs_str s _ _) PySem.F.slot_str_getitem.lookup h hs
  | list l =>
    obtain ⟨a, vs, n, rfl, nx, g, z, _⟩ := q.list_inv w
    exact tail_any (T := "list") ⟨_, g, rfl⟩ list_getitem_lookup h hs
  | tup l =>
    obtain ⟨a, vs, n, rfl, f, g, z, _⟩ := q.tup_inv
    exact tail_any (T := "tuple") ⟨_, g, rfl⟩ PySem.F.slot_tuple_getitem.lookup h hs
  | _ => cases hd
theorem zii {d e : D} {r : R} (h : opIndex [d, e] = some r) : seqD d = true := by
  obtain ⟨i, _, h⟩ := Option.bind_eq_some_iff.mp (show (intD e).bind (fun i => if small i then idxD i d else none) = some r from h)
  by_cases hs : small i = true
  · replace h := (if_pos hs).symm.trans h
    cases d <;> first | rfl | (cases h; done)
  · cases (if_neg hs).symm.trans h
theorem zai {v i : Expr} {pos : Pos} {xv xi : X} (hv : Sound cx ε v xv) (hi : Sound cx ε i xi) : Sound cx ε (.Subscript v i pos) (.op .index (.cons xv (.cons xi .nil))) := by
  refine Sound.ofE ?_ fun _ => rfl
  intro n cf A env F s ρ ad m cm H res he Q E hQ
  obtain ⟨rs, h1, h2⟩ := ev_op he
  obtain ⟨ra, xs, ha, h3, rfl⟩ := zaJ h1
  obtain ⟨rb, ys, hb, h4, rfl⟩ := zaJ h3
  cases zcp h4
  refine Subscript_ ?_
  refine hv.ev n cf A env F s ρ ad m cm H ra ha _ _ fun a F' s' st qa => ?_
  refine hi.ev n cf A env F' s' ρ ad m cm (H.step st) rb hb _ _ fun b F'' s'' st' qb => ?_
  have qa' := st'.brep st.wd qa.brep
  refine zfd st'.wd qa' (zii h2) ?_
  exact zk3 n A F'' s'' [a, b] _ res H.ok H.bud st'.wd (.cons qa' (.cons qb.brep .nil)) h2 _ _ (hQ.after (st.trans st'))
inductive SoundO (cx : XCx) (ε : Sc) : Option Expr → X → Prop
  | no : SoundO cx ε none (.const .none)
  | yes {e : Expr} {x : X} : Sound cx ε e x → SoundO cx ε (some e) x
theorem SoundO.run {o : Option Expr} {x : X} (h : SoundO cx ε o x) {n cf A env F s ρ ad m cm} (H : Here cx ε n cf A env F s ρ ad m cm) {r : R} (hr : ev cf x ρ = some [r]) : Ev cx A F s (evalPart o env) r := by
  cases h with
  | no => replace hr := (zaE _).symm.trans hr; cases hr; exact Ev.here H.wd (.val .none)
  | yes h => exact h.ev n cf A env F s ρ ad m cm H r hr
theorem zdD {F : AP} {h : Heap} {v : Value} {d : D} {o : Option Int} (q : BRep cx F h v d) (e : partD d = some o) : ∃ p : Option (Int × Tok), v = partValue p ∧ p.map (·.1) = o := (zd6 q e).2
theorem zaw {v : Expr} {l u : Option Expr} {p pos : Pos} {xv xl xu : X} (hv : Sound cx ε v xv) (hl : SoundO cx ε l xl) (hu : SoundO cx ε u xu) :
    Sound cx ε (.Subscript v (.Slice l u none p) pos) (.op .slice (.cons xv (.cons xl (.cons xu .nil)))) := by
  refine Sound.ofE ?_ fun _ => rfl
  intro n cf A env F s ρ ad m cm H res he Q E hQ
  obtain ⟨rs, h1, h2⟩ := ev_op he
  obtain ⟨ra, xs, ha, h3, rfl⟩ := zaJ h1
  obtain ⟨rb, ys, hb, h4, rfl⟩ := zaJ h3
  obtain ⟨rc, zs, hc, h5, rfl⟩ := zaJ h4
  cases zcp h5
  refine Subscript_ ?_
  refine hv.ev n cf A env F s ρ ad m cm H ra ha _ _ fun a F' s' st qa => ?_
  refine wpAny_Slice ?_
  refine hl.run (H.step st) hb _ _ fun vl F1 s1 st1 ql => ?_
  refine hu.run ((H.step st).step st1) hc _ _ fun vu F2 s2 st2 qu => ?_
  refine wpAny_pure ?_
  have st3 := (st.trans st1).trans st2
  have st4 := Step.push H.ok st3.wd { cls := .type "slice", data := .fields #[vl, vu, .none] } s2.toks
  have qa' := st4.brep st3.wd ((st1.trans st2).brep st.wd qa.brep)
  have ql' := st4.brep st3.wd (st2.brep st1.wd ql.brep)
  have qu' := st4.brep st3.wd qu.brep
  have hs := Heap.IsSliceOf.new s2.heap vl vu .none
  replace h2 : opSlice [ra.ds, rb.ds, rc.ds] = some res := h2
  cases hx : ra.ds <;> rw [hx] at h2 <;> try (cases h2; done)
  · rename_i x
    rw [hx] at qa'
    replace h2 : (match bound rb.ds 0 x.length, bound rc.ds x.length x.length with | some lo, some hi => some (R.val (.str (cut x lo hi))) | _, _ => none) = some res := h2
    split at h2
    · rename_i lo hi hlo hhi
      cases h2
      obtain ⟨t, rfl, pp, z⟩ := qa'.str_inv
      refine zfd st4.wd qa' rfl ?_
      obtain ⟨ol, hol, rfl⟩ := zcH hlo
      obtain ⟨ou, hou, rfl⟩ := zcH hhi
      obtain ⟨pl, rfl, e4⟩ := zdD ql' hol
      obtain ⟨pu, rfl, e5⟩ := zdD qu' hou
      refine zjb st4.wd (pl := pl) (pu := pu) pp z ?_ ?_
      · obtain ⟨o, h1, h2, h3⟩ := hs; exact ⟨o, h1, h2, h3⟩
      · rw [e4, e5, zbR]; exact hQ.after (st3.trans st4)
    · cases h2
  · rename_i x
    rw [hx] at qa'
    replace h2 : (match bound rb.ds 0 x.length, bound rc.ds x.length x.length with | some lo, some hi => some (R.own (cut x lo hi)) | _, _ => none) = some res := h2
    split at h2
    · rename_i lo hi hlo hhi
      cases h2
      obtain ⟨al, vs, k, rfl, nx, g, z, q⟩ := qa'.list_inv st4.wd
      refine zfd st4.wd qa' rfl ?_
      obtain ⟨ol, hol, rfl⟩ := zcH hlo
      obtain ⟨ou, hou, rfl⟩ := zcH hhi
      refine zeP H.ok st4.wd g z q hs (zd6 ql' hol).1 (zd6 qu' hou).1 .none (by intro e; cases e) ?_
      rw [zbR]; exact hQ.after (st3.trans st4)
    · cases h2
theorem zdA {v st : Expr} {l u : Option Expr} {p pos : Pos} {xv xl xu xs : X} (hv : Sound cx ε v xv) (hl : SoundO cx ε l xl) (hu : SoundO cx ε u xu) (hst : Sound cx ε st xs) :
    Sound cx ε (.Subscript v (.Slice l u (some st) p) pos) (.op .slice3 (.cons xv (.cons xl (.cons xu (.cons xs .nil))))) := by
  refine Sound.ofE ?_ fun _ => rfl
  intro n cf A env F s ρ ad m cm H res he Q E hQ
  obtain ⟨rs, h1, h2⟩ := ev_op he
  obtain ⟨ra, xs', ha, h3, rfl⟩ := zaJ h1
  obtain ⟨rb, ys, hb, h4, rfl⟩ := zaJ h3
  obtain ⟨rc, zs, hc, h5, rfl⟩ := zaJ h4
  obtain ⟨rd, ws, hd, h6, rfl⟩ := zaJ h5
  cases zcp h6
  refine Subscript_ ?_
  refine hv.ev n cf A env F s ρ ad m cm H ra ha _ _ fun a F' s' st qa => ?_
  refine wpAny_Slice ?_
  refine hl.run (H.step st) hb _ _ fun vl F1 s1 st1 ql => ?_
  refine hu.run ((H.step st).step st1) hc _ _ fun vu F2 s2 st2 qu => ?_
  have st3 := (st.trans st1).trans st2
  refine hst.ev n cf A env F2 s2 ρ ad m cm (H.step st3) rd hd _ _ fun vs F3 s3 st5 qs => ?_
  have st6 := st3.trans st5
  have st4 := Step.push H.ok st6.wd { cls := .type "slice", data := .fields #[vl, vu, vs] } s3.toks
  have qa' := st4.brep st6.wd (((st1.trans st2).trans st5).brep st.wd qa.brep)
  have ql' := st4.brep st6.wd ((st2.trans st5).brep st1.wd ql.brep)
  have qu' := st4.brep st6.wd (st5.brep st3.wd qu.brep)
  have qs' := st4.brep st6.wd qs.brep
  have hs := Heap.IsSliceOf.new s3.heap vl vu vs
  replace h2 : opSlice3 [ra.ds, rb.ds, rc.ds, rd.ds] = some res := h2
  cases hx : ra.ds <;> rw [hx] at h2 <;> try (cases h2; done)
  cases hy : rd.ds <;> rw [hy] at h2 <;> try (cases h2; done)
  · rename_i x k
    rw [hx] at qa'; rw [hy] at qs'
    replace h2 : (match partD rb.ds, partD rc.ds with | some lo, some hi => if k ≠ 0 ∧ small k then some (R.own (pick x lo hi (some k))) else none | _, _ => none) = some res := h2
    split at h2
    · rename_i lo hi hlo hhi
      split at h2 <;> cases h2
      rename_i hk
      obtain ⟨al, vs', k', rfl, nx, g, z, q⟩ := qa'.list_inv st4.wd
      refine zfd st4.wd qa' rfl ?_
      obtain ⟨t, rfl⟩ := qs'.int_inv
      exact zeP H.ok st4.wd g z q hs (zd6 ql' hlo).1 (zd6 qu' hhi).1 (.int _ _) (by intro e; cases e; exact hk.1 rfl) (hQ.after (st6.trans st4))
    · cases h2
end
noncomputable def starred : Expr → Bool
  | .Starred _ _ => true
  | _ => false
theorem zan {e : Expr} {rest : List Expr} {env : Env} (h : starred e = false) : starEach (e :: rest) env = (false, eval e env) :: starEach rest env := by
  cases e <;> first | rfl | cases h
theorem zau {pos : Pos} {t : Sem Value} {r : List (Bool × Sem Value)} : backTo pos ((false, t) :: r) = (false, t) :: backTo pos r := by
  simp [backTo]
section
variable {cx : XCx} {ε : Sc}
inductive RepRL (cx : XCx) (F : AP) (lo h : Heap) : List Value → List R → Prop
  | nil : RepRL cx F lo h [] []
  | cons {v : Value} {vs : List Value} {r : R} {rs : List R} : RepR cx F lo h v r → RepRL cx F lo h vs rs → RepRL cx F lo h (v :: vs) (r :: rs)
theorem RepRL.brep {F : AP} {lo h : Heap} {vs : List Value} {rs : List R} (q : RepRL cx F lo h vs rs) : BRepL cx F h vs (rs.map R.ds) := by
  induction q with
  | nil => exact .nil
  | cons a _ ih => exact .cons a.brep ih
theorem RepRL.low {F F' F'' : AP} {s s' : Shared} {h : Heap} {vs : List Value} {rs : List R} (x : Step cx F s F' s') (q : RepRL cx F'' s'.heap h vs rs) : RepRL cx F'' s.heap h vs rs := by
  induction q with
  | nil => exact .nil
  | cons a _ ih => exact .cons (a.low x) ih
theorem RepRL.vals {F : AP} {lo h : Heap} {vs : List Value} {l : List D} (q : RepL cx.T F h vs l) : RepRL cx F lo h vs (l.map .val) := by
  induction vs generalizing l with
  | nil => cases q; exact .nil
  | cons v vs ih => cases q with | cons a b => exact .cons (.val a) (ih b)
theorem zhR (ok : CxOk cx) {F : AP} {s : Shared} (w : Wd cx F s) : ∀ {vs : List Value} {rs : List R} {ds : List D} {F' : AP} {s' : Shared} {F₁ : AP}, Step cx F s F₁ s' → (∀ a, F' a → F₁ a) → RepRL cx F' s.heap s'.heap vs rs → fzAll rs = some ds →
    ∃ F'', Step cx F s F'' s' ∧ (∀ a, F₁ a → F'' a) ∧ RepL cx.T F'' s'.heap vs ds := by
  intro vs rs ds F' s' F₁ x hF q e
  induction q generalizing ds F₁ with
  | nil => cases e; exact ⟨F₁, x, fun _ h => h, .nil⟩
  | @cons v vs r rs a b ih =>
    unfold fzAll at e
    split at e
    · rename_i d ds' e1 e2
      cases e
      cases a with
      | val a =>
        cases e1
        obtain ⟨F'', y, hs, q⟩ := ih x hF e2
        exact ⟨F'', y, hs, .cons (a.mono (fun c h => hs c (hF c h)) fun _ _ _ e => e) q⟩
      | own l nf nx g z a =>
        cases e1
        obtain ⟨F'', y, hs, q⟩ := ih (x.freeze ok w l g) (fun c h => .inl (hF c h)) e2
        exact ⟨F'', y, fun c h => hs c (.inl h), .cons (.list (hs _ (.inr rfl)) g z (a.mono (fun c h => hs c (.inl (hF c h))) fun _ _ _ e => e)) q⟩
      | bor _ _ _ _ => cases e1
    · cases e
inductive SoundL (cx : XCx) (ε : Sc) : List Expr → X → Bool → Prop
  | nil : SoundL cx ε [] .nil false
  | cons {e : Expr} {x : X} {es : List Expr} {y : X} {st : Bool} : Sound cx ε e x → starred e = false → SoundL cx ε es y st → SoundL cx ε (e :: es) (.cons x y) st
  | star {e : Expr} {x : X} {p : Pos} : Sound cx ε e x → SoundL cx ε [.Starred e p] (.star x) true
theorem ziK {F : AP} {s : Shared} {A : Around} {E : VP} {Q : List Value → Shared → Prop} (ok : CxOk cx) (w : Wd cx F s) {v : Value} {r : R} {d : D} {l : List D} {lo : Heap} (q : RepR cx F lo s.heap v r) (e : r.fz = some d)
    (hl : d = .list l ∨ d = .tup l)
    (h : ∀ vs s', RepL cx.T F s'.heap vs l → vs.length ≤ lim → Step cx F s F s' → Q vs s') : PySem.W.StarOf (model cx.prog cx.w) A E v Q s := by
  have key : ∃ (a : Addr) (o : Obj) (T : String) (vs : List Value) (n : Nat), v = .ref a ∧ s.heap.get? a = some o ∧ o.cls = .type T ∧ o.data = .seq vs.toArray n ∧ (T = "list" ∨ T = "tuple") ∧ vs.length ≤ lim ∧ RepL cx.T F s.heap vs l := by
    cases q with
    | val q =>
      cases e
      rcases hl with rfl | rfl
      · cases q with | list f g z q => exact ⟨_, _, "list", _, _, rfl, g, rfl, rfl, .inl rfl, z, q⟩
      · cases q with | tup f g z q => exact ⟨_, _, "tuple", _, _, rfl, g, rfl, rfl, .inr rfl, z, q⟩
    | own l nf nx g z q =>
      cases e
      rcases hl with h | h <;> cases h
      exact ⟨_, _, "list", _, _, rfl, g, rfl, rfl, .inl rfl, z, q⟩
    | bor _ _ _ _ => cases e
  obtain ⟨a, o, T, vs, n, rfl, g, hc, hd, hT, z, q⟩ := key
  have hT' : s.TypeIs (.ref a) T := ⟨o, g, hc⟩
  have c : wpAny (model cx.prog cx.w) A (collect (.ref a)) Q E s := by
    refine wpAny_collect_seq a hT g hc hd (fun h' hk => ?_) (by rw [List.size_toArray]; exact zaC z)
    exact h vs { s with heap := h' } (q.mono (fun _ h => h) fun a o _ e => hk a o e) z (Step.grown ok w s.toks hk)
  unfold PySem.W.StarOf notIterableAtAll
  rcases hT with rfl | rfl
  · exact wb (wpAny_specialOf hT' PySem.F.slot_list_iter.lookup (wpAny_pure ⟨rfl, c⟩))
  · exact wb (wpAny_specialOf hT' PySem.F.slot_tuple_iter.lookup (wpAny_pure ⟨rfl, c⟩))
theorem ev_star {cf : CfT} {ρ : List Slot} {a : X} {rs : List R} (h : ev cf (.star a) ρ = some rs) : ∃ x d l, ev cf a ρ = some [x] ∧ x.fz = some d ∧ (d = .list l ∨ d = .tup l) ∧ rs = l.map .val := by
  replace h := (zbh _).symm.trans h
  split at h
  · rename_i x e
    split at h
    · rename_i l e'; cases h; exact ⟨x, _, l, e, e', .inl rfl, rfl⟩
    · rename_i l e'; cases h; exact ⟨x, _, l, e, e', .inr rfl, rfl⟩
    · cases h
  · cases h
theorem zhA {n cf A env F s ρ ad m cm} (H : Here cx ε n cf A env F s ρ ad m cm) {e : Expr} {x : X} (h : Sound cx ε e x) {rs : List R} (hr : ev cf (.star x) ρ = some rs) {Q : List Value → Shared → Prop} {E : VP}
    (hQ : ∀ vs F' s', Step cx F s F' s' → RepRL cx F' s.heap s'.heap vs rs → vs.length ≤ lim → Q vs s') : wpAny (model cx.prog cx.w) A (eval e env) (fun v s₁ => PySem.W.StarOf (model cx.prog cx.w) A E v Q s₁) E s := by
  obtain ⟨r, d, l, e1, e2, e3, rfl⟩ := ev_star hr
  refine h.ev n cf A env F s ρ ad m cm H r e1 _ _ fun v F' s' st q => ?_
  obtain ⟨F'', st', hs, rd⟩ := st.fz H.ok H.wd q e2
  have q' : RepR cx F'' s.heap s'.heap v (.val d) := .val rd
  exact ziK H.ok st'.wd q' rfl e3 fun vs s'' ql z st'' => hQ vs F'' s'' (st'.trans st'') (RepRL.vals ql) z
theorem SoundL.run {es : List Expr} {x : X} {b : Bool} (h : SoundL cx ε es x b) {n cf A env} {pos : Pos} :
    ∀ F s ρ ad m cm, Here cx ε n cf A env F s ρ ad m cm → ∀ rs, ev cf x ρ = some rs → ∀ (Q : List Value → Shared → Prop) (E : VP),
      (∀ vs F' s', Step cx F s F' s' → RepRL cx F' s.heap s'.heap vs rs → Q vs s') → wpAny (model cx.prog cx.w) A (spliced (backTo pos (starEach es env))) Q E s := by
  induction h with
  | nil =>
    intro F s ρ ad m cm H rs hr Q E hQ
    cases zcp hr
    exact Calls.spliced_nil (hQ [] F s (Step.refl H.wd) .nil)
  | @cons e x es y st h1 hs h2 ih =>
    intro F s ρ ad m cm H rs hr Q E hQ
    obtain ⟨r, rs', e1, e2, rfl⟩ := zaJ hr
    rw [zan hs, zau]
    refine Calls.spliced_cons ?_
    refine h1.ev n cf A env F s ρ ad m cm H r e1 _ _ fun v F' s' st q => ?_
    refine ih F' s' ρ ad m cm (H.step st) rs' e2 _ _ fun vs F'' s'' st' qs => ?_
    exact hQ _ F'' s'' (st.trans st') (.cons (q.step st' st.wd) (qs.low st))
  | @star e x p h1 =>
    intro F s ρ ad m cm H rs hr Q E hQ
    refine PySem.W.ks_spliced (rest := []) (zhA H h1 hr fun vs F' s' st q z => ?_)
    exact Calls.spliced_nil (by rw [List.append_nil]; exact hQ vs F' s' st q)
theorem zbk {es : List Expr} {x : X} {b : Bool} {pos : Pos} (h : SoundL cx ε es x b) : Sound cx ε (.List es pos) (.list x) := by
  refine Sound.ofE ?_ fun _ => rfl
  intro n cf A env F s ρ ad m cm H res he Q E hQ
  replace he := (zbi _).symm.trans he
  split at he
  · rename_i rs e1
    split at he
    · rename_i ds e2
      split at he <;> cases he
      rename_i hz
      show wpAny _ _ (do standAt pos; newList (← spliced (backTo pos (starEach es env)))) Q E s
      refine wb (wpAny_standAt (wb ?_))
      refine h.run F s ρ ad m cm H rs e1 _ _ fun vs F' s' st q => ?_
      obtain ⟨F'', st', _, q'⟩ := zhR H.ok H.wd st (fun _ h => h) q e2
      have z : vs.length ≤ lim := by rw [q'.length]; exact hz
      refine wpAny_newList ?_ (zaC z)
      exact hQ _ F'' _ (st'.trans (Step.push H.ok st'.wd _ _)) ((RepR.pushOwn st'.wd z q').low st')
    · cases he
  · cases he
theorem zfo {F : AP} {s : Shared} (ok : CxOk cx) (w : Wd cx F s) {vs : List Value} {l : List D} (k : Nat) (z : vs.length ≤ lim) (q : RepL cx.T F s.heap vs l) :
    ∃ F', Step cx F s F' { s with heap := s.heap.push (tobj vs.toArray 0), toks := k } ∧ Rep cx.T F' (s.heap.push (tobj vs.toArray 0)) (.ref s.heap.objs.size) (.tup l) := by
  have st := Step.push ok w (tobj vs.toArray 0) k
  have g : (s.heap.push (tobj vs.toArray 0)).get? s.heap.objs.size = some (tobj vs.toArray 0) := Heap.get?_push_size _ rfl
  exact ⟨_, st.freeze ok w (zar _) g, .tup (.inr rfl) g z ((st.repL w q).mono (fun _ h => .inl h) fun _ _ _ e => e)⟩
theorem zbQ {es : List Expr} {x : X} {b : Bool} {k : Nat} {pos : Pos} (h : SoundL cx ε es x b) : Sound cx ε (.Tuple es k pos) (.tup x) := by
  refine Sound.ofE ?_ fun _ => rfl
  intro n cf A env F s ρ ad m cm H res he Q E hQ
  replace he := (zbC _).symm.trans he
  split at he
  · rename_i rs e1
    split at he
    · rename_i ds e2
      split at he <;> cases he
      rename_i hz
      show wpAny _ _ (do standAt pos; newTuple (← spliced (backTo pos (starEach es env)))) Q E s
      refine wb (wpAny_standAt (wb ?_))
      refine h.run F s ρ ad m cm H rs e1 _ _ fun vs F' s' st q => ?_
      obtain ⟨F'', st', _, q'⟩ := zhR H.ok H.wd st (fun _ h => h) q e2
      have z : vs.length ≤ lim := by rw [q'.length]; exact hz
      refine wpAny_newTuple ?_ (zaC z)
      obtain ⟨F3, st3, r⟩ := zfo H.ok st'.wd s'.toks z q'
      exact hQ _ F3 _ (st'.trans st3) (.val r)
    · cases he
  · cases he
theorem zaR {es : List Expr} {x : X} {b : Bool} {pos : Pos} {env : Env} (h : SoundL cx ε es x b) : (backTo pos (starEach es env)).any (·.1) = b := by
  induction h with
  | nil => rfl
  | cons h1 hs h2 ih => rw [zan hs, zau, List.any_cons]; simpa using ih
  | star h => rfl
theorem zaW {es : List Expr} {x : X} {b : Bool} {pos : Pos} (h : SoundL cx ε es x b) {n cf A env F s ρ ad m cm} (H : Here cx ε n cf A env F s ρ ad m cm) {rs : List R} (hr : ev cf x ρ = some rs) {f : Value} {Q : Args → Shared → Prop} {E : VP}
    (hQ : ∀ vs F' s', Step cx F s F' s' → RepRL cx F' s.heap s'.heap vs rs → Q ⟨vs, []⟩ s') : wpAny (model cx.prog cx.w) A (evalArgs f true (backTo pos (starEach es env)) []) Q E s := by
  cases h with
  | nil =>
    cases zcp hr
    exact PySem.evalArgs_none (hQ [] F s (Step.refl H.wd) .nil)
  | @cons e x es y b h1 hs h2 =>
    have := (SoundL.cons h1 hs h2).run (pos := pos) F s ρ ad m cm H rs hr
    rw [zan hs, zau] at this ⊢
    exact Calls.evalArgs_plain (this _ _ hQ)
  | star h1 =>
    exact PySem.W.ks_lone (zhA H h1 hr fun vs F' s' st q _ => hQ vs F' s' st q)
theorem zb0 {n cf A env F s ρ ad m cm} (H : Here cx ε n cf A env F s ρ ad m cm) {x : Str} {pos : Pos} {v : Value} (hk : ε.kinds.lookup x = some .globalImplicit) (hv : cx.mg x = some v) (hd : (x == ("__debug__" : Str)) = false)
    {Q E : VP} (h : Q v s) : wpAny (model cx.prog cx.w) A (eval (.Name x pos) env) Q E s :=
  Calls.Name_function_global H.env.kind (by unfold Env.kindOf; rw [H.env.names]; exact hk) (Calls.loadGlobal_global (H.env.glob ▸ H.wd.glob H.ok) hv h) hd
theorem zaK {n cf A env F s ρ ad m cm} (H : Here cx ε n cf A env F s ρ ad m cm) {x : Str} {pos : Pos} {v : Value} (hk : ε.kinds.lookup x = some .globalImplicit) (hg : cx.mg x = none) (hn : x ≠ "__name__") (hv : bootBuiltins x = some v) (hd : (x == ("__debug__" : Str)) = false)
    {Q E : VP} (h : Q v s) : wpAny (model cx.prog cx.w) A (eval (.Name x pos) env) Q E s :=
  Calls.Name_function_global H.env.kind (by unfold Env.kindOf; rw [H.env.names]; exact hk) (Calls.loadGlobal_builtin (H.env.glob ▸ H.wd.glob H.ok) hg (H.env.blt ▸ H.wd.blt H.ok) ((H.ok.bmb x hn).trans hv) h) hd
theorem zav {f : Expr} {args : List Expr} {pos : Pos} {env : Env} (hf : ∀ o n p, f ≠ .Attribute o n p) : eval (.Call f args [] pos) env = (do callWith pos (← eval f env) [] (backTo pos (starEach args env)) []) := by
  cases f <;> first | rfl | exact absurd rfl (hf _ _ _)
theorem zay {f : Str} {i : Nat} {p pos : Pos} {es : List Expr} {x : X} {b : Bool} (hk : ε.kinds.lookup f = some .globalImplicit) (hv : cx.mg f = some (.ref (cx.fa i))) (hd : (f == ("__debug__" : Str)) = false) (h : SoundL cx ε es x b) :
    Sound cx ε (.Call (.Name f p) es [] pos) (.call i x) := by
  refine Sound.ofE ?_ fun _ => rfl
  intro n cf A env F s ρ ad m cm H res he Q E hQ
  replace he := (zbb _).symm.trans he
  split at he
  · rename_i rs e1
    split at he
    · rename_i ds e2
      obtain ⟨d, e3, e4⟩ := Option.map_eq_some_iff.mp he
      cases e4
      rw [zav (by intro _ _ _ e; cases e)]
      obtain ⟨⟨o, fd, g, hfd, nx⟩, hcall⟩ := H.calls.call i ds d e3
      refine wb (zb0 H hk hv hd ?_)
      refine Calls.callWith_function (o := o) (fd := fd) (zaW h H e1 fun vs F' s' st q => ?_)
      obtain ⟨F'', st', _, q'⟩ := zhR H.ok H.wd st (fun _ h => h) q e2
      refine ⟨⟨st'.wd.base _ _ g nx, hfd⟩, ?_⟩
      show wpAny _ _ (call (.ref (cx.fa i)) vs) Q E s'
      refine wpAny_call (hcall A F'' s' vs H.bud.toBud st'.wd q' _ fun v F3 s3 st3 r => ?_)
      exact hQ v F3 s3 (st'.trans st3) (.val r)
    · cases he
  · cases he
inductive Callee : Value → Prop
  | builtin (id : String) : Callee (.builtin id)
  | type (T : String) : Callee (.type T)
theorem zag {f : Str} {c : Value} {o : Op} {p pos : Pos} {es : List Expr} {x : X} (hk : ε.kinds.lookup f = some .globalImplicit) (hg : cx.mg f = none) (hn : f ≠ "__name__") (hv : bootBuiltins f = some c) (hc : Callee c)
    (hd : (f == ("__debug__" : Str)) = false) (h : SoundL cx ε es x false) (ho : OpOK cx o (fun vs => call c vs)) : Sound cx ε (.Call (.Name f p) es [] pos) (.op o x) := by
  refine Sound.ofE ?_ fun _ => rfl
  intro n cf A env F s ρ ad m cm H res he Q E hQ
  obtain ⟨rs, e1, e2⟩ := ev_op he
  rw [zav (by intro _ _ _ e; cases e)]
  refine wb (zaK H hk hg hn hv hd ?_)
  cases hc with
  | builtin id =>
    refine Calls.callWith_builtin (zaR h) (zaW h H e1 fun vs F' s' st q => ?_)
    exact ho n A F' s' vs _ res H.ok H.bud st.wd q.brep e2 _ _ (hQ.after st)
  | type T =>
    refine PyProof.Rows.callWith_type (zaR h) (zaW h H e1 fun vs F' s' st q => ?_)
    exact ho n A F' s' vs _ res H.ok H.bud st.wd q.brep e2 _ _ (hQ.after st)
noncomputable def plainBase : Expr → Bool
  | .Call (.Name _ _) [] [] _ => false
  | _ => true
theorem zdE {o : Expr} {a : Str} {env : Env} {t : Sem Value} (h : plainBase o = true) : attributeBase o a env t = t := by
  cases o with
  | Call f as ks pos => cases f with
    | Name x p => cases as with
      | nil => cases ks with
        | nil => cases h
        | cons _ _ => rfl
      | cons _ _ => rfl
    | _ => rfl
  | _ => rfl
theorem zdW {o : Expr} {name : Str} {apos pos : Pos} {es : List Expr} {env : Env} {A : Around} {s : Shared} {Q E : VP} (hb : plainBase o = true) (hl : (apos.endLine == pos.line) = true) (hn : es.length < 30)
    (hst : (backTo pos (starEach es env)).any (·.1) = false)
    (h : wpAny (model cx.prog cx.w) A (eval o env) (fun ov s₁ => wpAny (model cx.prog cx.w) A (getMethod ov name (do return (← importBound o env).getD true)) (fun fx s₂ => wpAny (model cx.prog cx.w) A (callWith pos fx.1 fx.2 (backTo pos (starEach es env)) []) Q E s₂) E s₁) E s) :
    wpAny (model cx.prog cx.w) A (eval (.Call (.Attribute o name apos) es [] pos) env) Q E s := by
  have hform : methodCallForm (es.length + ([] : List Keyword).length) (backTo pos (starEach es env)) [] = true := by
    unfold methodCallForm
    simp only [List.length_nil, Nat.add_zero, List.all_nil, Bool.and_true, List.isEmpty_nil, if_true, Bool.and_eq_true, decide_eq_true_eq]
    refine ⟨?_, hn⟩
    rw [List.all_eq_true]
    intro y hy
    have := List.any_eq_false.mp hst y hy
    simpa using this
  have hpos : methodCallPos true o env apos pos = pure pos := by unfold methodCallPos; simp [hl]
  show wpAny _ _ (do
    let ov ← attributeBase o name env (eval o env)
    standAt apos.atName
    methodCall o name apos pos env ov (es.length + ([] : List Keyword).length) (backTo pos (starEach es env)) (backToKw pos (keywordEach [] env))) Q E s
  rw [zdE hb]
  refine wb (wpAny_mono h (fun ov s₁ h₁ => wb (wpAny_standAt ?_)) fun _ _ e => e)
  show wpAny _ _ (methodCall o name apos pos env ov (es.length + ([] : List Keyword).length) (backTo pos (starEach es env)) []) Q E s₁
  unfold methodCall calleeOf
  rw [hform]
  refine wb (wpAny_holding (wpAny_mono h₁ (fun fx s₂ h₂ => ?_) fun _ _ e => e))
  rw [hpos]
  exact wb (wpAny_pure h₂)
theorem zaZ {o : Expr} {name : Str} {id : String} {apos pos : Pos} {es : List Expr} {xo x : X} {op : Op} (hb : plainBase o = true) (hl : (apos.endLine == pos.line) = true) (hn : es.length < 30)
    (slot : PySem.Slot "str" name id) (ty : typeOf (.builtin id) = pure (.type "method_descriptor"))
    (h0 : Sound cx ε o xo) (h : SoundL cx ε es x false) (hs : ∀ d ds r, opF op (d :: ds) = some r → ∃ l, d = .str l) (ho : OpOK cx op (fun vs => call (.builtin id) vs)) : Sound cx ε (.Call (.Attribute o name apos) es [] pos) (.op op (.cons xo x)) := by
  refine Sound.ofE ?_ fun _ => rfl
  intro n cf A env F s ρ ad m cm H res he Q E hQ
  obtain ⟨rs, e1, e2⟩ := ev_op he
  obtain ⟨r0, rs', e3, e4, rfl⟩ := zaJ e1
  refine zdW hb hl hn (zaR h) ?_
  refine h0.ev n cf A env F s ρ ad m cm H r0 e3 _ _ fun v F' s' st q => ?_
  obtain ⟨l, hl'⟩ := hs _ _ _ e2
  have qb := q.brep
  rw [hl'] at qb
  obtain ⟨t, rfl, p, z⟩ := qb.str_inv
  refine GM.of _ (typeIs_str _ _ _) slot ty (fun _ e => nomatch e) ?_
  refine Calls.callWith_builtin (zaR h) (zaW h (H.step st) e4 fun vs F'' s'' st' qs => ?_)
  exact ho n A F'' s'' (_ :: vs) _ res H.ok H.bud st'.wd (.cons (st'.brep st.wd q.brep) qs.brep) e2 _ _ (hQ.after (st.trans st'))
end
theorem zdK {α : Type} (n : Nat) (l : List α) : ((List.replicate n l.toArray).foldl (· ++ ·) #[]) = ((List.replicate n l).flatten).toArray := by
  have : ∀ (m : Nat) (acc : List α), ((List.replicate m l.toArray).foldl (· ++ ·) acc.toArray) = (acc ++ (List.replicate m l).flatten).toArray := by
    intro m
    induction m with
    | zero => intro acc; simp
    | succ m ih =>
      intro acc
      simp only [List.replicate_succ, List.foldl_cons, List.flatten_cons]
      rw [show acc.toArray ++ l.toArray = (acc ++ l).toArray by simp, ih]
      simp
  have := this n []
  simpa using this
section
variable {cx : XCx}
theorem mul_str {F : AP} {s : Shared} {A : Around} {x y : Value} {a : List Nat} {b : Int} (qa : BRep cx F s.heap x (.str a)) (qb : BRep cx F s.heap y (.int b)) (hb : small b = true) (hz : a.length * b.toNat ≤ lim) {Q E : VP}
    (h : ∀ t k, Q (.str ⟨(rep a b).toArray⟩ t) { s with toks := k }) : wpAny (model cx.prog cx.w) A (binaryOp .Mult x y) Q E s := by
  obtain ⟨t, rfl, p, z⟩ := qa.str_inv
  obtain ⟨u, rfl⟩ := qb.int_inv
  obtain ⟨b1, b2⟩ := zdT hb
  have hlen : (PySem.Str.mk a.toArray).length = a.length := List.size_toArray ..
  have b3 : b ≤ 2 ^ 63 - 1 := Int.le_trans b2 (by decide)
  refine SB.mul ⟨by rw [decide_eq_false (Int.not_lt.mpr (Int.le_trans (by decide) b1)), decide_eq_false (Int.not_le.mpr (Int.lt_of_le_of_lt b2 (by decide)))]; rfl, fun h1 _ h2 => ?_, fun h1 _ => ?_⟩ fun t' k => ?_
  · rw [hlen] at h2
    clear hz hlen qa qb p
    have hpos : 0 < b := by omega
    have h3 : 1000000 ≤ (2 ^ 63 - 1) / b := Int.le_ediv_of_mul_le hpos (Int.le_trans (Int.mul_le_mul_of_nonneg_left b2 (by decide)) (by decide))
    exact absurd (Int.lt_of_le_of_lt h3 h2) (Int.not_lt.mpr (Int.ofNat_le.mpr z))
  · rw [hlen]
    exact decide_eq_false (Nat.not_lt.mpr (zaC hz))
  · have e : Txt.mul ⟨a.toArray⟩ b = ⟨(rep a b).toArray⟩ := by
      unfold Txt.mul rep
      split
      · rename_i h1
        rw [Int.toNat_of_nonpos (Int.lt_add_one_iff.mp h1)]; rfl
      · split
        · rename_i h1 h2
          rcases (Bool.or_eq_true _ _).mp h2 with h2 | h2
          · have := eq_of_beq h2
            subst this; exact congrArg PySem.Str.mk (by simp)
          · rw [hlen] at h2
            have := List.length_eq_zero_iff.mp (eq_of_beq h2)
            subst this; exact congrArg PySem.Str.mk (by simp)
        · show PySem.Str.mk _ = _
          rw [zdK]
    rw [e]
    exact h t' k
theorem rep_mem {α : Type} {a : List α} {b : Int} {c : α} (h : c ∈ rep a b) : c ∈ a := by
  obtain ⟨l, hl, hc⟩ := List.mem_flatten.mp h
  rw [(List.mem_replicate.mp hl).2] at hc
  exact hc
theorem zjg {α : Type} (a : List α) (b : Int) : (rep a b).length = a.length * b.toNat := by
  unfold rep
  rw [List.length_flatten, List.map_replicate, List.sum_replicate_nat, Nat.mul_comm]
theorem zlc {F : AP} {s : Shared} {A : Around} {x y : Value} {a : List D} {b : Int} (w : Wd cx F s) (qa : BRep cx F s.heap x (.list a)) (qb : BRep cx F s.heap y (.int b)) (hb : small b = true) (hz : a.length * b.toNat ≤ lim) {Q E : VP}
    (h : ∀ vs : List Value, vs.length ≤ lim → RepL cx.T F s.heap vs (rep a b) → Q (.ref s.heap.objs.size) { s with heap := s.heap.push (lobj vs.toArray 0) }) : wpAny (model cx.prog cx.w) A (binaryOp .Mult x y) Q E s := by
  obtain ⟨l, vs, k, rfl, nx, g, z, ql⟩ := qa.list_inv w
  obtain ⟨u, rfl⟩ := qb.int_inv
  obtain ⟨b1, b2⟩ := zdT hb
  have hl : vs.length * b.toNat ≤ lim := ql.length ▸ hz
  have hsz : vs.toArray.size * b.toNat ≤ 2 ^ 24 := by rw [List.size_toArray]; exact Nat.le_trans hl (by decide)
  have e : (List.foldl (fun x1 x2 => x1 ++ x2) #[] (List.replicate (if vs.toArray.isEmpty = true then 0 else b.toNat) vs.toArray)) = (rep vs b).toArray := by
    unfold rep
    split
    · rename_i h1
      have : vs = [] := by simpa using h1
      subst this
      simp
    · rw [zdK]
  have := h (rep vs b) (zjg vs b ▸ hl) (ql.rep _)
  rw [← e] at this
  clear qa qb ql hz h e
  refine wpAny_binaryOp_repeat_ref (T := "list") (U := "int") (by decide) ⟨_, g, rfl⟩ (fun s' => typeIs_int s' b u) noFill_list_mul PySem.F.fills_int_mul PySem.F.slot_int_rmul repeat_list PySem.F.slot_int_index.lookup
    (call_meets PySem.F.slot_int_rmul (typeIs_int s b u) PySem.F.entry_int_rmul (PySem.F.args_int_rmul_2 _ _) (int___rmul___int_list b u l vs.toArray k)
      ⟨g, rfl, ⟨_, g, rfl⟩, call_meets PySem.F.slot_list_mul ⟨_, g, rfl⟩ PySem.F.entry_list_mul (PySem.F.args_list_mul_2 _ _)
        (AutoListH.list___mul___list_int_3 l vs.toArray k b u (by simp [Builtin.List.listFitsIndex]; omega) (by omega) (by simp [Builtin.List.listTooLong, sizeLine]; omega))
        ⟨g, this⟩⟩)
inductive MulI : List D → R → Prop
  | i {a b : Int} : (small a || small b) = true → MulI [.int a, .int b] (.val (.int (a * b)))
  | s {a : List Nat} {b : Int} : small b = true → a.length * b.toNat ≤ lim → MulI [.str a, .int b] (.val (.str (rep a b)))
  | l {a : List D} {b : Int} : small b = true → a.length * b.toNat ≤ lim → MulI [.list a, .int b] (.own (rep a b))
theorem mul_inv {ds : List D} {r : R} (he : opMul ds = some r) : MulI ds r := by
  obtain ⟨a, b, rfl, he⟩ := zcP (show two _ ds = some r from he)
  obtain ⟨i, e, he⟩ := Option.bind_eq_some_iff.mp he
  cases zcF e
  cases a <;> try (cases he; done)
  · obtain ⟨h, rfl⟩ := zca he
    exact .i h
  · obtain ⟨h, rfl⟩ := zca he
    have h := (Bool.and_eq_true _ _).mp h
    exact .s h.1 (of_decide_eq_true h.2)
  · obtain ⟨h, rfl⟩ := zca he
    have h := (Bool.and_eq_true _ _).mp h
    exact .l h.1 (of_decide_eq_true h.2)
theorem op_mul : OpOK cx .mul (op2 (binaryOp .Mult)) := by
  intro n A F s vs ds r ok bud w q he Q E hQ
  cases mul_inv he with
  | i hs =>
    obtain ⟨x, y, rfl, qa, qb⟩ := q.two
    obtain ⟨t, rfl⟩ := qa.int_inv
    obtain ⟨u, rfl⟩ := qb.int_inv
    refine P.mul_int (hQ _ F _ ((Step.refl w).toks _) (.val (.int _ _))) ?_
    have hb : ∀ {i : Int}, small i = true → Builtin.Int.intBits i ≤ 64 := fun h => let ⟨h1, h2⟩ := zdT h; PySem.intBits_le_64 (Int.le_trans (by decide) h1) (Int.lt_of_le_of_lt h2 (by decide))
    rcases (Bool.or_eq_true _ _).mp hs with hs | hs
    · exact PySem.IntMulOk.of_left (hb hs)
    · exact PySem.IntMulOk.of_right (hb hs)
  | s hb hz =>
    obtain ⟨x, y, rfl, qa, qb⟩ := q.two
    obtain ⟨_, _, p, _⟩ := qa.str_inv
    exact mul_str qa qb hb hz fun t k => hQ _ F _ ((Step.refl w).toks k) (.val (.str t (fun c hc => p c (rep_mem hc)) (by rw [zjg]; exact hz)))
  | l hb hz =>
    obtain ⟨x, y, rfl, qa, qb⟩ := q.two
    exact zlc w qa qb hb hz fun vs hl ql => hQ _ F _ (Step.push ok w _ _) (.pushOwn w hl ql)
inductive IsInv : D → D → Bool → Prop
  | none {d : D} {c : Bool} : noneB d = some c → IsInv d .none c
  | toks {i j : Nat} : i < 2 → j < 2 → IsInv (.tok i) (.tok j) (decide (i = j))
  | strTok (l : List Nat) (k : Nat) : IsInv (.str l) (.tok k) false
  | tokStr (l : List Nat) (k : Nat) : IsInv (.tok k) (.str l) false
  | noneTok (k : Nat) : IsInv .none (.tok k) false
theorem isD_inv {a b : D} {c : Bool} (h : isD a b = some c) : IsInv a b c := by
  cases b <;> try (cases h; done)
  · exact .none h
  · cases a <;> cases h
    exact .tokStr _ _
  · cases a with
    | none => cases h; exact .noneTok _
    | str => cases h; exact .strTok _ _
    | tok i => obtain ⟨⟨h1, h2⟩, rfl⟩ := zca h; exact .toks h1 h2
    | _ => cases h
theorem ziO {F : AP} {h : Heap} {v : Value} {d : D} {c : Bool} (q : BRep cx F h v d) (e : noneB d = some c) : plainIs v .none = true ∧ (v == .none) = c := by
  cases q with
  | rep q => cases q <;> cases e <;> exact ⟨rfl, rfl⟩
  | own => cases e; exact ⟨rfl, rfl⟩
theorem ziV {F : AP} {h : Heap} {v : Value} {k : Nat} (q : BRep cx F h v (.tok k)) (hk : k < 2) : ∃ n t, h.get? (cx.T k) = some (lobj #[.str ⟨(tokC k).toArray⟩ t] n) := by
  cases q with | rep q => cases q with | tok f => exact (f hk).2
theorem zjX (ok : CxOk cx) {F : AP} {s : Shared} {A : Around} {x y : Value} {a b : D} {c : Bool} (w : Wd cx F s) (qa : BRep cx F s.heap x a) (qb : BRep cx F s.heap y b) (hc : isD a b = some c) {Q : Bool → Shared → Prop} {E : VP} (h : Q c s) :
    wpAny (model cx.prog cx.w) A (isSame x y) Q E s := by
  cases isD_inv hc with
  | none e =>
    obtain ⟨e1, e2⟩ := ziO qa e
    rw [qb.none_inv]
    exact wpAny_isSame_plain e1 (by rw [e2]; exact h)
  | noneTok k => rw [qa.none_inv, qb.tok_inv]; exact wpAny_isSame_plain rfl h
  | strTok l k => obtain ⟨t, rfl, _, _⟩ := qa.str_inv; rw [qb.tok_inv]; exact wpAny_isSame_plain rfl h
  | tokStr l k => obtain ⟨t, rfl, _, _⟩ := qb.str_inv; rw [qa.tok_inv]; exact wpAny_isSame_plain rfl h
  | @toks i j h1 h2 =>
    obtain ⟨_, _, g⟩ := ziV qa h1
    obtain ⟨_, _, g'⟩ := ziV qb h2
    rw [qa.tok_inv, qb.tok_inv]
    by_cases e : i = j
    · subst e
      rw [decide_eq_true rfl] at h
      exact wpAny_isSame_ref_self h
    · rw [decide_eq_false e] at h
      exact wpAny_isSame_ref_other (fun e' => e (ok.tinj _ _ e')) g g' (by show Value.type "list" ≠ Value.type "tuple"; decide) h
theorem op_is : OpOK cx .is_ (op2 (compareOp .Is)) := by
  intro n A F s vs ds r ok bud w q he
  refine ze4 w q he fun x y a b c qa qb hc Q E h => ?_
  show wpAny _ A (do return .bool (← isSame x y)) Q E s
  exact wb (zjX ok w qa qb hc (wpAny_pure (h s.toks)))
theorem zk1 : OpOK cx .isnot (op2 (compareOp .IsNot)) := by
  intro n A F s vs ds r ok bud w q he
  refine ze4 w q he fun x y a b c qa qb hc Q E h => ?_
  obtain ⟨c', hc', rfl⟩ := Option.map_eq_some_iff.mp hc
  show wpAny _ A (do return .bool (!(← isSame x y))) Q E s
  exact wb (zjX ok w qa qb hc' (wpAny_pure (h s.toks)))
theorem zbg : OpOK cx .len (fun vs => call (.builtin "len") vs) := by
  intro n A F s vs ds r ok bud w q he Q E hQ
  replace he : opLen ds = some r := he
  rcases ds with _ | ⟨a0, t0⟩
  · cases he
  cases a0 <;> try (cases he; done)
  all_goals
    rcases t0 with _ | ⟨a1, t1⟩ <;> cases he
  · obtain ⟨x, rfl, qa⟩ := q.one
    obtain ⟨t, rfl, p, z⟩ := qa.str_inv
    rename_i l
    have e : (PySem.Str.mk l.toArray).length = l.length := by show l.toArray.size = _; rw [List.size_toArray]
    refine P.len_str (by rw [e]; have := sz_lt z; omega) ?_
    rw [e]
    exact hQ _ F _ ((Step.refl w).toks _) (.val (.int _ _))
  · obtain ⟨x, rfl, qa⟩ := q.one
    obtain ⟨a, vs, k, rfl, nx, g, z, ql⟩ := qa.list_inv w
    refine PyProof.Rows.len_list (zaB g) (by rw [List.size_toArray]; exact sz_lt z) ?_
    rw [List.size_toArray, ql.length]
    exact hQ _ F _ ((Step.refl w).toks _) (.val (.int _ _))
  · obtain ⟨x, rfl, qa⟩ := q.one
    obtain ⟨a, vs, k, rfl, f, g, z, ql⟩ := qa.tup_inv
    refine PyProof.Rows.len_tuple (zfF g) (by rw [List.size_toArray]; exact sz_lt z) ?_
    rw [List.size_toArray, ql.length]
    exact hQ _ F _ ((Step.refl w).toks _) (.val (.int _ _))
theorem abs_ite {i : Int} : (if i < 0 then -i else i) = (i.natAbs : Int) := by
  split
  · rename_i h; exact (Int.ofNat_natAbs_of_nonpos (Int.le_of_lt h)).symm
  · rename_i h; exact (Int.natAbs_of_nonneg (Int.not_lt.mp h)).symm
theorem op_abs : OpOK cx .abs (fun vs => call (.builtin "abs") vs) := by
  intro n A F s vs ds r ok bud w q he Q E hQ
  delta opF at he; dsimp only at he
  unfold opAbs at he
  split at he <;> cases he
  rename_i i
  obtain ⟨x, rfl, qa⟩ := q.one
  obtain ⟨t, rfl⟩ := qa.int_inv
  refine PyProof.Rows.call_abs_int fun u tk => ?_
  have e : (if i < 0 then -i else i) = (i.natAbs : Int) := abs_ite
  rw [e]
  exact hQ _ F _ ((Step.refl w).toks _) (.val (.int _ _))
theorem zia {F : AP} {h : Heap} : ∀ {l : List D} {is : List Int} {vs : List Value}, toInts l = some is → RepL cx.T F h vs l → ∀ (i : Nat) v, vs[i]? = some v → ∃ t, v = .int (is.getD i 0) t := by
  intro l
  induction l with
  | nil => intro is vs e q i v hv; cases q; cases hv
  | cons d r ih =>
    intro is vs e q
    cases d <;> try (cases e; done)
    obtain ⟨is', e', rfl⟩ := Option.map_eq_some_iff.mp (show (toInts r).map _ = some is from e)
    cases q with
    | cons a b =>
      obtain ⟨t, e2⟩ := (BRep.rep (cx := cx) a).int_inv
      intro i v hv
      cases i with
      | zero => exact ⟨t, (Option.some.inj hv).symm.trans e2⟩
      | succ i => exact ih e' b i v hv
theorem zc2 : ∀ {l : List D} {is : List Int}, toInts l = some is → is.length = l.length
  | [], is, e => by cases e; rfl
  | d :: r, is, e => by
    cases d <;> try (cases e; done)
    obtain ⟨is', e', rfl⟩ := Option.map_eq_some_iff.mp (show (toInts r).map _ = some is from e)
    simp [zc2 e']
theorem op_sum : OpOK cx .sum (fun vs => call (.builtin "sum") vs) := by
  intro n A F s vs ds r ok bud w q he Q E hQ
  delta opF at he; dsimp only at he
  unfold opSum at he
  split at he
  · rename_i l
    obtain ⟨is, e1, e2⟩ := Option.map_eq_some_iff.mp he
    cases e2
    obtain ⟨x, rfl, qa⟩ := q.one
    obtain ⟨a, vs, k, rfl, nx, g, z, ql⟩ := qa.list_inv w
    refine call_sum_walkG (wpAny_pyIter_list (zaB g) ?_)
    have hne : a ≠ s.heap.objs.size := Nat.ne_of_lt (Heap.lt_size g)
    refine ⟨s.heap.objs.size, _, _, _, _, _, fun i => is.getD i 0, rfl, Walks.list (A := A.in1) bud.hd _ a hne vs.toArray, ⟨⟨_, Heap.get?_push_size _ rfl, rfl, rfl⟩, zaB (Heap.get?_push_of_some _ g)⟩, ?_, ?_, ?_⟩
    · intro b hb
      simp only [List.mem_cons, List.not_mem_nil, or_false] at hb
      rw [Heap.size_push]
      rcases hb with rfl | rfl
      · exact Nat.lt_succ_self _
      · exact Nat.lt_succ_of_lt (Heap.lt_size g)
    · intro i v hv
      exact zia e1 ql i v (by simpa using hv)
    · intro h' tk t' hk
      have e : preSum (fun i => is.getD i 0) vs.toArray.size = is.sum := by
        rw [preSum_getD, List.size_toArray, ql.length, ← zc2 e1, List.take_length]
      rw [e]
      refine hQ _ F _ (Step.grown ok w _ fun b o hb => ?_) (.val (.int _ _))
      refine hk b o ?_ (Heap.get?_push_of_some _ hb)
      simp only [List.mem_cons, List.not_mem_nil, or_false]
      rintro rfl
      rw [zar] at hb; cases hb
  · cases he
end
theorem zbt (l : List Nat) : (PySem.Str.mk l.toArray).length = l.length := by show l.toArray.size = _; rw [List.size_toArray]
theorem zeL (x : PySem.Str) (lo hi : Nat) : (∀ c ∈ (strSub x lo hi).cps.toList, c ∈ x.cps.toList) ∧ (strSub x lo hi).cps.size ≤ x.cps.size := by
  unfold strSub
  constructor
  · intro c hc
    simp only [Array.mem_toList_iff] at hc ⊢
    obtain ⟨i, hi, e⟩ := Array.mem_iff_getElem.mp hc
    rw [Array.getElem_extract] at e
    exact Array.mem_iff_getElem.mpr ⟨_, _, e⟩
  · simp only [Array.size_extract]; exact Nat.le_trans (Nat.sub_le _ _) (Nat.min_le_right _ _)
section
variable {cx : XCx}
theorem zi2 {F : AP} {h : Heap} {l : List Nat} (p : ∀ c ∈ l, c < 0x110000) (z : l.length ≤ lim) {y : PySem.Str} (t : Tok) (h1 : ∀ c ∈ y.cps.toList, c ∈ l) (h2 : y.cps.size ≤ l.length) : Rep cx.T F h (.str y t) (.str y.cps.toList) :=
  Rep.str (l := y.cps.toList) t (fun c hc => p c (h1 c hc)) (by rw [Array.length_toList]; exact Nat.le_trans h2 z)
theorem zgS {f : PySem.Str → PySem.Str → R} {vs : List Value} {ds : List D} {F : AP} {s : Shared} {A : Around} {r : R} {id : String} (w : Wd cx F s) (q : BRepL cx F s.heap vs ds) (he : opStr2 f ds = some r)
    (h : ∀ (a b : List Nat) (t u : Tok), (∀ c ∈ a, c < 0x110000) → a.length ≤ lim → ∀ (Q E : VP), (∀ v k, RepR cx F s.heap s.heap v (f ⟨a.toArray⟩ ⟨b.toArray⟩) → Q v { s with toks := k }) →
      wpAny (model cx.prog cx.w) A (call (.builtin id) [.str ⟨a.toArray⟩ t, .str ⟨b.toArray⟩ u]) Q E s) : Ev cx A F s (call (.builtin id) vs) r := by
  intro Q E hQ
  obtain ⟨a, b, rfl, he⟩ := zcP (show two _ ds = some r from he)
  obtain ⟨a, e, he⟩ := Option.bind_eq_some_iff.mp he
  obtain ⟨b, e2, he⟩ := Option.bind_eq_some_iff.mp he
  cases zbw e
  cases zbw e2
  cases he
  obtain ⟨x, y, rfl, qa, qb⟩ := q.two
  obtain ⟨t, rfl, p, z⟩ := qa.str_inv
  obtain ⟨u, rfl, _, _⟩ := qb.str_inv
  exact h _ _ t u p z Q E fun v k rv => hQ v F _ ((Step.refl w).toks k) rv
theorem zk0 : OpOK cx .rfind (fun vs => call (.builtin "str.rfind") vs) := by
  intro n A F s vs ds r ok bud w q he
  delta opF at he; dsimp only at he
  exact zgS w q he fun a b t u p z Q E h => SC.rfind (h _ _ (.val (.int _ _)))
theorem zfq : OpOK cx .startswith (fun vs => call (.builtin "str.startswith") vs) := by
  intro n A F s vs ds r ok bud w q he
  delta opF at he; dsimp only at he
  exact zgS w q he fun a b t u p z Q E h => SC.startswith (h _ s.toks (.val (.bool _)))
theorem zgQ (g : Nat → Bool) (l r : Bool) (x : PySem.Str) : (∀ c ∈ (Txt.stripBy g l r x).cps.toList, c ∈ x.cps.toList) ∧ (Txt.stripBy g l r x).cps.size ≤ x.cps.size := by
  unfold Txt.stripBy
  split
  · exact ⟨fun _ h => h, Nat.le_refl _⟩
  · exact zeL _ _ _
theorem zjr : OpOK cx .rstrip (fun vs => call (.builtin "str.rstrip") vs) := by
  intro n A F s vs ds r ok bud w q he
  delta opF at he; dsimp only at he
  refine zgS w q he fun a b t u p z Q E h => SC.rstripChars (fun t' k => h _ k (.val ?_)) (by rw [zbt]; exact zaC z)
  have := zgQ (PySem.Str.mk b.toArray).cps.contains false true ⟨a.toArray⟩
  exact zi2 p z t' this.1 (by have h2 := this.2; rw [show (PySem.Str.mk a.toArray).cps.size = a.length from List.size_toArray ..] at h2; exact h2)
theorem zio : OpOK cx .replace (fun vs => call (.builtin "str.replace") vs) := by
  intro n A F s vs ds r ok bud w q he Q E hQ
  obtain ⟨a, b, c, rfl, he⟩ := zhz (show opReplace ds = some r from he)
  obtain ⟨hocc, rfl⟩ := zca he
  · skip
    cases q with | cons q1 q => cases q with | cons q2 q => cases q with | cons q3 q =>
    cases q
    obtain ⟨t, rfl, p, z⟩ := q1.str_inv
    obtain ⟨u, rfl, _, _⟩ := q2.str_inv
    obtain ⟨v, rfl, _, _⟩ := q3.str_inv
    have e : ((occurrences ⟨a.toArray⟩ ⟨b.toArray⟩ 0 (PySem.Str.mk a.toArray).length ((PySem.Str.mk a.toArray).length + 1)).isEmpty || ((PySem.Str.mk b.toArray).length == 0 && (PySem.Str.mk c.toArray).length == 0)) = true := by
      rw [zbt, hocc]; rfl
    obtain ⟨mc, n1, n2⟩ := ok.nb
    refine call_givesAt PySem.F.slot_str_replace (typeIs_str _ _ _) PySem.F.entry_str_replace (PySem.F.args_str_replace_3 _ _ _) (gives_str_replace2 _ _ _ t u v fun h => by rw [e] at h; cases h) ⟨mc, n1.at' fun o g => w.base _ o g ok.limx, n2⟩ ?_
    rw [if_pos e]
    exact hQ _ F _ (Step.refl w) (.val (.str t p z))
end
section
variable {cx : XCx}
theorem zi0 {F : AP} {h : Heap} : ∀ {l : List D} {ls : List (List Nat)} {vs : List Value}, toStrs l = some ls → RepL cx.T F h vs l →
    ∃ ps : List (PySem.Str × Tok), vs = strValues ps ∧ ps.map (·.1) = ls.map (fun x => PySem.Str.mk x.toArray) ∧ (∀ x ∈ ls, (∀ c ∈ x, c < 0x110000) ∧ x.length ≤ lim) := by
  intro l
  induction l with
  | nil => intro ls vs e q; cases q; cases e; exact ⟨[], rfl, rfl, fun _ h => nomatch h⟩
  | cons d r ih =>
    intro ls vs e q
    cases d <;> try (cases e; done)
    rename_i x
    obtain ⟨ls', e', rfl⟩ := Option.map_eq_some_iff.mp (show (toStrs r).map _ = some ls from e)
    cases q with
    | cons a b =>
      obtain ⟨ps, rfl, h2, h3⟩ := ih e' b
      cases a with
      | str t p z => exact ⟨(⟨x.toArray⟩, t) :: ps, rfl, congrArg (_ :: ·) h2, List.forall_mem_cons.mpr ⟨⟨p, z⟩, h3⟩⟩
theorem zeZ (s : List Nat) : ∀ (ls : List (List Nat)) (acc : List Nat), ((ls.map fun x => PySem.Str.mk x.toArray).foldl (fun (acc : Array Nat) p => acc ++ (PySem.Str.mk s.toArray).cps ++ p.cps) acc.toArray) = (acc ++ (ls.map fun x => s ++ x).flatten).toArray
  | [], acc => by simp
  | x :: r, acc => by
    rw [List.map_cons, List.foldl_cons]
    have e : (acc.toArray ++ (PySem.Str.mk s.toArray).cps ++ (PySem.Str.mk x.toArray).cps) = (acc ++ s ++ x).toArray := by simp
    rw [e, zeZ s r]
    simp
theorem zcD (s a : List Nat) : ∀ r : List (List Nat), joinL s (a :: r) = a ++ (r.map fun x => s ++ x).flatten
  | [] => by simp [joinL]
  | b :: r => by
    rw [joinL, zcD s b r]
    · simp
    · intro h; cases h
theorem zeY (s : List Nat) (ls : List (List Nat)) : glued ⟨s.toArray⟩ (ls.map fun x => PySem.Str.mk x.toArray) = ⟨(joinL s ls).toArray⟩ := by
  unfold glued
  cases ls with
  | nil => rfl
  | cons a r =>
    simp only [List.map_cons, List.drop_succ_cons, List.drop_zero, List.headD_cons]
    have := zeZ s r a
    simp only [zcD]
    exact congrArg PySem.Str.mk this
theorem zgo {s : List Nat} {c : Nat} : ∀ {ls : List (List Nat)}, c ∈ joinL s ls → c ∈ s ∨ ∃ x ∈ ls, c ∈ x
  | [], h => by simp [joinL] at h
  | a :: r, h => by
    rw [zcD, List.mem_append] at h
    rcases h with h | h
    · exact .inr ⟨a, List.mem_cons_self, h⟩
    · simp only [List.mem_flatten, List.mem_map] at h
      obtain ⟨l, ⟨x, hx, rfl⟩, hc⟩ := h
      rcases List.mem_append.mp hc with h | h
      · exact .inl h
      · exact .inr ⟨x, List.mem_cons_of_mem _ hx, h⟩
theorem zhM (s : PySem.Str) : ∀ (xs : List PySem.Str) (k : Nat), xs.toArray.foldl (fun n x => n + x.length + s.length) k = k + (xs.map fun x => x.length + s.length).sum := by
  intro xs
  induction xs with
  | nil => intro k; simp
  | cons x r ih =>
    intro k
    have := ih (k + x.length + s.length)
    simp only [List.foldl_toArray, List.foldl_cons, List.map_cons, List.sum_cons] at this ⊢
    rw [this, Nat.add_assoc k, Nat.add_assoc k]
theorem zgp (s : List Nat) (a : List Nat) (r : List (List Nat)) : (joinL s (a :: r)).length = a.length + (r.map fun x => s.length + x.length).sum := by
  rw [zcD, List.length_append, List.length_flatten, List.map_map]
  congr 2
  apply List.map_congr_left
  intro x _
  simp
theorem zjW {a s r : Nat} (hz : a + r ≤ 1000000) (z : s ≤ 1000000) : ¬ (a + s + r > 16777216) := by omega
theorem op_join : OpOK cx .join (fun vs => call (.builtin "str.join") vs) := by
  intro n A F s vs ds r ok bud w q he Q E hQ
  delta opF at he; dsimp only at he
  unfold opJoin at he
  split at he
  · rename_i a l
    split at he
    · rename_i ls e1
      split at he <;> cases he
      rename_i hz
      obtain ⟨x, y, rfl, qa, qb⟩ := q.two
      obtain ⟨t, rfl, p, z⟩ := qa.str_inv
      obtain ⟨D, vs, k, rfl, nx, g, zl, ql⟩ := qb.list_inv w
      obtain ⟨ps, rfl, h2, h3⟩ := zi0 e1 ql
      refine SC.join (l := ps) (texts := ls.map fun x => PySem.Str.mk x.toArray) (zaB g) h2 ?_ fun t' k => ?_
      · unfold JoinOk tooLong
        rw [zhM, Nat.zero_add, List.map_map]
        simp only [Bool.not_eq_true', decide_eq_false_iff_not]
        rw [sizeLine_eq]
        unfold lim at hz z
        cases ls with
        | nil => simp
        | cons b r =>
          rw [zgp] at hz
          simp only [List.map_cons, List.sum_cons, Function.comp, zbt]
          have e : (List.map ((fun x => x.length + a.length) ∘ fun x => PySem.Str.mk x.toArray) r).sum = (r.map fun x => a.length + x.length).sum := by
            congr 1
            apply List.map_congr_left
            intro x _
            show (PySem.Str.mk x.toArray).length + a.length = _
            rw [zbt, Nat.add_comm]
          rw [e]
          exact zjW hz z
      · unfold Txt.join
        rw [zeY]
        refine hQ _ F _ ((Step.refl w).toks k) (.val (.str t' (fun c hc => ?_) hz))
        rcases zgo hc with hc | ⟨x, hx, hc⟩
        · exact p c hc
        · exact (h3 x hx).1 c hc
    · cases he
  · cases he
theorem zdH {F : AP} {h : Heap} (a : List Nat) (p : ∀ c ∈ a, c < 0x110000) (z : a.length ≤ lim) : ∀ {l : List (PySem.Str × Tok)} {xs : List PySem.Str}, l.map (·.1) = xs → (∀ x ∈ xs, (∀ c ∈ x.cps.toList, c ∈ a) ∧ x.cps.size ≤ a.length) →
    RepL cx.T F h (strValues l) (xs.map fun x => .str x.cps.toList)
  | [], _, rfl, _ => .nil
  | (x, t) :: l, _, rfl, hx => by
    have h1 := hx x List.mem_cons_self
    refine .cons (zi2 p z t h1.1 h1.2) (zdH a p z rfl fun y hy => hx y (List.mem_cons_of_mem _ hy))
theorem zjp (x y : PySem.Str) : (∀ z ∈ Txt.split x y, (∀ c ∈ z.cps.toList, c ∈ x.cps.toList) ∧ z.cps.size ≤ x.cps.size) := by
  intro z hz
  unfold Txt.split at hz
  have self : ∀ z ∈ [x], (∀ c ∈ z.cps.toList, c ∈ x.cps.toList) ∧ z.cps.size ≤ x.cps.size := fun z hz => by
    rw [List.mem_singleton.mp hz]; exact ⟨fun _ h => h, Nat.le_refl _⟩
  split at hz
  · exact self z hz
  · split at hz
    · exact self z hz
    · unfold partsBetween at hz
      obtain ⟨⟨i, j⟩, _, rfl⟩ := List.mem_map.mp hz
      exact zeL _ _ _
theorem zdz (x y : PySem.Str) : (Txt.split x y).length ≤ x.length + 2 := by
  unfold Txt.split
  split
  · simp
  · split
    · simp
    · rw [length_partsBetween]
      have := StrLaws.occ_length_le x y 0 x.length (x.length + 1)
      omega
theorem zkZ : OpOK cx .split (fun vs => call (.builtin "str.split") vs) := by
  intro n A F s vs ds r ok bud w q he Q E hQ
  delta opF at he; dsimp only at he
  unfold opSplit at he
  split at he
  · rename_i a b
    split at he <;> cases he
    rename_i hz
    obtain ⟨x, y, rfl, qa, qb⟩ := q.two
    obtain ⟨t, rfl, p, z⟩ := qa.str_inv
    obtain ⟨u, rfl, _, _⟩ := qb.str_inv
    have hfin : ∀ (l : List (PySem.Str × Tok)) (k : Nat), l.map (·.1) = Txt.split ⟨a.toArray⟩ ⟨b.toArray⟩ → Q (.ref s.heap.objs.size) { s with heap := s.heap.push (lobj (strValues l).toArray 0), toks := k } := by
      intro l k hl
      have hx : ∀ x ∈ Txt.split ⟨a.toArray⟩ ⟨b.toArray⟩, (∀ c ∈ x.cps.toList, c ∈ a) ∧ x.cps.size ≤ a.length := fun x hx => by
        have h2 := zjp _ _ x hx
        rw [show (PySem.Str.mk a.toArray).cps.size = a.length from List.size_toArray ..] at h2
        exact h2
      have hr := zdH (cx := cx) (F := F) (h := s.heap) a p z hl hx
      have hlen : (strValues l).length ≤ lim := by
        rw [hr.length, List.length_map]
        have := zdz ⟨a.toArray⟩ ⟨b.toArray⟩
        rw [zbt] at this
        omega
      exact hQ _ F _ (Step.push ok w _ _) (.pushOwn w hlen hr)
    have hy : ((PySem.Str.mk b.toArray).length == 0) = false := by rw [zbt, hz.1]; rfl
    have hsz : (PySem.Str.mk a.toArray).length ≤ sizeLine := by rw [zbt]; exact zaC z
    cases h1 : (decide ((PySem.Str.mk a.toArray).length < (PySem.Str.mk b.toArray).length) || decide (strKind ⟨a.toArray⟩ < strKind ⟨b.toArray⟩))
    · cases hf : (occurrences ⟨a.toArray⟩ ⟨b.toArray⟩ 0 (PySem.Str.mk a.toArray).length ((PySem.Str.mk a.toArray).length + 1)).isEmpty
      · have hs : Txt.split ⟨a.toArray⟩ ⟨b.toArray⟩ = partsBetween ⟨a.toArray⟩ (occurrences ⟨a.toArray⟩ ⟨b.toArray⟩ 0 (PySem.Str.mk a.toArray).length ((PySem.Str.mk a.toArray).length + 1)) (PySem.Str.mk b.toArray).length := by
          unfold Txt.split; rw [h1, hf]; rfl
        have hsz2 : (partsBetween ⟨a.toArray⟩ (occurrences ⟨a.toArray⟩ ⟨b.toArray⟩ 0 (PySem.Str.mk a.toArray).length ((PySem.Str.mk a.toArray).length + 1)) (PySem.Str.mk b.toArray).length).length ≤ sizeLine := by
          rw [← hs]
          have := zdz ⟨a.toArray⟩ ⟨b.toArray⟩
          rw [zbt] at this
          exact zaC (by omega)
        refine call_meets PySem.F.slot_str_split (typeIs_str _ _ _) PySem.F.entry_str_split (PySem.F.args_str_split_2 _ _) (meets_str_split_sep _ _ t u h1 hy hf hsz hsz2) ?_
        show wants Q E _ { s with toks := _, heap := s.heap.push { cls := .type "list", data := .seq (strsFrom s.toks (partsBetween _ _ _)).toArray } }
        rw [strsFrom_eq]
        exact hfin (numbered s.toks _) _ ((numbered_texts _ _).trans hs.symm)
      · have hs : Txt.split ⟨a.toArray⟩ ⟨b.toArray⟩ = [⟨a.toArray⟩] := by unfold Txt.split; rw [h1, hf]; rfl
        exact call_meets PySem.F.slot_str_split (typeIs_str _ _ _) PySem.F.entry_str_split (PySem.F.args_str_split_2 _ _) (meets_str_split_not_found _ _ t u h1 hy hf) (hfin [(_, t)] s.toks hs.symm)
    · have hs : Txt.split ⟨a.toArray⟩ ⟨b.toArray⟩ = [⟨a.toArray⟩] := by unfold Txt.split; rw [h1]; rfl
      exact call_meets PySem.F.slot_str_split (typeIs_str _ _ _) PySem.F.entry_str_split (PySem.F.args_str_split_2 _ _) (meets_str_split_cannot_occur _ _ t u h1) (hfin [(_, t)] s.toks hs.symm)
  · cases he
theorem op_tyOf : OpOK cx .tyOf (fun vs => call (.type "type") vs) := by
  intro n A F s vs ds r ok bud w q he Q E hQ
  delta opF at he; dsimp only at he
  rcases ds with _ | ⟨d, _ | ⟨c, t⟩⟩
  · cases he
  · replace he : (tyD d).map (fun n => R.val (.ty n)) = some r := he
    obtain ⟨x, rfl, qa⟩ := q.one
    obtain ⟨T, e1, e2⟩ := Option.map_eq_some_iff.mp he
    cases e2
    have key : s.TypeIs x T ∧ (Value.type T == Value.type "builtin_function_or_method") = false := by
      cases d <;> cases e1
      · rw [qa.bool_inv]; exact ⟨rfl, by decide⟩
      · obtain ⟨t, rfl⟩ := qa.int_inv; exact ⟨typeIs_int s _ _, by decide⟩
      · obtain ⟨t, rfl, _, _⟩ := qa.str_inv; exact ⟨typeIs_str s _ _, by decide⟩
      · obtain ⟨a, vs, n, rfl, nx, g, _, _⟩ := qa.list_inv w; exact ⟨⟨_, g, rfl⟩, by decide⟩
      · obtain ⟨a, vs, n, rfl, f, g, _, _⟩ := qa.tup_inv; exact ⟨⟨_, g, rfl⟩, by decide⟩
    exact call_type_of key.1 key.2 (hQ _ F _ (Step.refl w) (.val (.ty _)))
  · cases he
theorem RepL.tys {T : NAd} {F : AP} {h : Heap} : ∀ {ns : List String} {vs : List Value}, RepL T F h vs (ns.map .ty) → vs = ns.map .type
  | [], _, .nil => rfl
  | a :: ns, _, .cons q r => by cases q; rw [RepL.tys (ns := ns) r]; rfl
theorem zgN : ∀ {l : List D} {ns : List String}, tyL l = some ns → l = ns.map .ty
  | [], _, h => by cases h; rfl
  | d :: r, ns, h => by
    cases d <;> try (cases h; done)
    obtain ⟨ns', e, rfl⟩ := Option.map_eq_some_iff.mp (show (tyL r).map _ = some ns from h)
    rw [zgN e]; rfl
theorem zhy {d : D} {b : Bool} (h : strB d = some b) : (∃ l, d = .str l ∧ b = true) ∨ ∃ l, d = .list l ∧ b = false := by
  cases d <;> cases h
  · exact .inl ⟨_, rfl, rfl⟩
  · exact .inr ⟨_, rfl, rfl⟩
inductive IsInstI : List D → R → Prop
  | s1 (l : List Nat) : IsInstI [.str l, .ty "str"] (.val (.bool true))
  | s2 (l : List Nat) : IsInstI [.str l, .ty "bytes"] (.val (.bool false))
  | s3 (l : List Nat) : IsInstI [.str l, .tup [.ty "list", .ty "tuple"]] (.val (.bool false))
  | s4 (l : List D) : IsInstI [.list l, .tup [.ty "list", .ty "tuple"]] (.val (.bool true))
theorem ziA {ds : List D} {r : R} (he : opIsInst ds = some r) : IsInstI ds r := by
  rcases ds with _ | ⟨a, _ | ⟨b, t⟩⟩
  · cases he
  · cases he
  cases b <;> try (cases he; done)
  · rename_i l
    rcases t with _ | ⟨z, t⟩ <;> try (cases he; done)
    by_cases q : tyL l = some ["list", "tuple"]
    · replace he := (if_pos q).symm.trans he
      obtain ⟨b, e, rfl⟩ := Option.map_eq_some_iff.mp he
      cases zgN q
      rcases zhy e with ⟨l, rfl, rfl⟩ | ⟨l, rfl, rfl⟩
      · exact .s3 _
      · exact .s4 _
    · cases (if_neg q).symm.trans he
  · rename_i n
    rcases t with _ | ⟨z, t⟩ <;> try (cases he; done)
    by_cases q : strB a = some true
    · replace he := (if_pos q).symm.trans he
      rcases zhy q with ⟨l, rfl, _⟩ | ⟨l, _, e⟩
      · by_cases q : n = "str"
        · cases (if_pos q).symm.trans he; subst q; exact .s1 _
        · obtain ⟨rfl, rfl⟩ := zca ((if_neg q).symm.trans he)
          exact .s2 _
      · cases e
    · cases (if_neg q).symm.trans he
theorem zdb : OpOK cx .isInst (fun vs => call (.builtin "isinstance") vs) := by
  intro n A F s vs ds r ok bud w q he Q E hQ
  cases ziA (show opIsInst ds = some r from he) with
  | s1 l =>
    obtain ⟨x, y, rfl, qa, qb⟩ := q.two
    obtain ⟨t, rfl, _, _⟩ := qa.str_inv
    rw [qb.ty_inv]
    exact IsiPair.str_str (hQ _ F _ (Step.refl w) (.val (.bool _)))
  | s2 l =>
    obtain ⟨x, y, rfl, qa, qb⟩ := q.two
    obtain ⟨t, rfl, _, _⟩ := qa.str_inv
    rw [qb.ty_inv]
    exact IsiPair.str_bytes (hQ _ F _ ((Step.refl w).toks _) (.val (.bool _)))
  | s3 l =>
    obtain ⟨x, y, rfl, qa, qb⟩ := q.two
    obtain ⟨t, rfl, _, _⟩ := qa.str_inv
    obtain ⟨a, vs, k, rfl, f, g, z, q3⟩ := qb.tup_inv
    cases q3.tys (ns := ["list", "tuple"])
    exact zgH g fun tk => hQ _ F _ ((Step.refl w).toks _) (.val (.bool _))
  | s4 l =>
    obtain ⟨x, y, rfl, qa, qb⟩ := q.two
    obtain ⟨l, ws, j, rfl, nx, gl, _, _⟩ := qa.list_inv w
    obtain ⟨a, vs, k, rfl, f, g, z, q3⟩ := qb.tup_inv
    cases q3.tys (ns := ["list", "tuple"])
    exact zfN gl g fun tk => hQ _ F _ ((Step.refl w).toks _) (.val (.bool _))
theorem zjZ {ds : List D} {r : R} (he : opIsSub ds = some r) : ds = [.ty "str", .tup [.ty "str", .ty "bytes"]] ∧ r = .val (.bool true) := by
  rcases ds with _ | ⟨a, _ | ⟨b, t⟩⟩
  · cases he
  · cases a <;> cases he
  cases a <;> try (cases he; done)
  cases b <;> try (cases he; done)
  rcases t with _ | ⟨z, t⟩ <;> try (cases he; done)
  obtain ⟨⟨rfl, q⟩, rfl⟩ := zca he
  rw [zgN q]
  exact ⟨rfl, rfl⟩
theorem zk2 : OpOK cx .isSub (fun vs => call (.builtin "issubclass") vs) := by
  intro n A F s vs ds r ok bud w q he Q E hQ
  obtain ⟨rfl, rfl⟩ := zjZ (show opIsSub ds = some r from he)
  obtain ⟨x, y, rfl, qa, qb⟩ := q.two
  rw [qa.ty_inv]
  obtain ⟨a, vs, k, rfl, f, g, z, q3⟩ := qb.tup_inv
  cases q3.tys (ns := ["str", "bytes"])
  exact zdR g fun tk => hQ _ F _ ((Step.refl w).toks _) (.val (.bool _))
end
noncomputable def Mut (env : Env) (ρ : List Slot) (ad : NAd) (a : Addr) : Prop :=
  a = env.locals ∨ (∃ n, env.cells.lookup n = some a) ∨ ∃ i l, slotAt ρ i = .own l ∧ a = ad i
set_option genInjectivity false in
structure ScOK (ε : Sc) : Prop where
  inj : ∀ x y i, ε.vars.lookup x = some i → ε.vars.lookup y = some i → x = y
set_option genInjectivity false in
structure Frm (cx : XCx) (ε : Sc) (env : Env) (F : AP) (s : Shared) (ρ : List Slot) (ad : NAd) (m cm : SV) : Prop where
  en : EnvOK cx ε env F s.heap ρ ad m cm
  lf : ¬ F env.locals
  cf : ∀ n c, env.cells.lookup n = some c → ¬ F c ∧ c ≠ env.locals
  cinj : ∀ n n' c, env.cells.lookup n = some c → env.cells.lookup n' = some c → n = n'
  oinj : ∀ i j l l', slotAt ρ i = .own l → slotAt ρ j = .own l' → ad i = ad j → i = j
  own : ∀ i l, slotAt ρ i = .own l → ¬ F (ad i) ∧ ¬ cx.X (ad i) ∧ (∃ o, s.heap.get? (ad i) = some o) ∧ ad i ≠ env.locals ∧ ∀ n, env.cells.lookup n ≠ some (ad i)
set_option genInjectivity false in
structure StepS (cx : XCx) (env : Env) (F : AP) (s : Shared) (ρ : List Slot) (ad : NAd) (F' : AP) (s' : Shared) (ρ' : List Slot) (ad' : NAd) : Prop where
  sub : ∀ a, F a → F' a
  new : ∀ a, F' a → F a ∨ s.heap.get? a = none ∨ Mut env ρ ad a
  keep : ∀ a o, s.heap.get? a = some o → ¬ cx.X a → ¬ Mut env ρ ad a → s'.heap.get? a = some o
  os : s'.os = s.os
  wd : Wd cx F' s'
  mu : ∀ a, Mut env ρ' ad' a → Mut env ρ ad a ∨ s.heap.get? a = none
theorem zaP (ρ : List Slot) (i : Nat) (sl : Slot) (j : Nat) : slotAt (ρ.set i sl) j = if j = i then (if i < ρ.length then sl else .unset) else slotAt ρ j := by
  unfold slotAt
  simp only [List.getD_eq_getElem?_getD, List.getElem?_set]
  by_cases h : i = j
  · subst h
    simp only [if_true]
    split <;> rfl
  · simp only [if_neg h, if_neg (Ne.symm h)]
theorem zcx {ρ : List Slot} {i : Nat} {l : List D} (h : ownAt ρ i = some l) : slotAt ρ i = .own l ∧ i < ρ.length ∧ dSlot i = false := by
  unfold ownAt at h
  split at h
  · rename_i l' e
    by_cases hd : dSlot i = true
    · rw [if_pos hd] at h; cases h
    rw [if_neg hd] at h
    cases h
    refine ⟨by unfold slotAt; simp [List.getD, e], ?_, by simpa using hd⟩
    rcases Nat.lt_or_ge i ρ.length with q | q
    · exact q
    · rw [List.getElem?_eq_none q] at e; cases e
  · cases h
section
variable {cx : XCx} {ε : Sc} {env : Env} {F F' F'' : AP} {s s' s'' : Shared} {ρ ρ' ρ'' : List Slot} {ad ad' ad'' : NAd} {m cm : SV}
theorem Frm.isSome (f : Frm cx ε env F s ρ ad m cm) {a : Addr} (h : Mut env ρ ad a) : ∃ o, s.heap.get? a = some o := by
  rcases h with rfl | ⟨n, hn⟩ | ⟨i, l, hi, rfl⟩
  · obtain ⟨o, _, _, e, _⟩ := f.en.ns; exact ⟨o, e⟩
  · obtain ⟨o, e, _⟩ := f.en.cells n a hn; exact ⟨o, e⟩
  · exact (f.own i l hi).2.2.1
theorem Frm.notF (f : Frm cx ε env F s ρ ad m cm) {a : Addr} (h : Mut env ρ ad a) : ¬ F a ∧ ¬ cx.X a := by
  rcases h with rfl | ⟨n, hn⟩ | ⟨i, l, hi, rfl⟩
  · exact ⟨f.lf, f.en.lx⟩
  · exact ⟨(f.cf n a hn).1, f.en.cxx n a hn⟩
  · exact ⟨(f.own i l hi).1, (f.own i l hi).2.1⟩
theorem StepS.refl (w : Wd cx F s) : StepS cx env F s ρ ad F s ρ ad := ⟨fun _ h => h, fun _ h => .inl h, fun _ _ e _ _ => e, rfl, w, fun _ h => .inl h⟩
theorem StepS.trans (x : StepS cx env F s ρ ad F' s' ρ' ad') (y : StepS cx env F' s' ρ' ad' F'' s'' ρ'' ad'') : StepS cx env F s ρ ad F'' s'' ρ'' ad'' := by
  have back : ∀ a, ¬ cx.X a → s'.heap.get? a = none → Mut env ρ ad a ∨ s.heap.get? a = none := fun a nx h => by
    by_cases hm : Mut env ρ ad a
    · exact .inl hm
    · right
      cases e : s.heap.get? a with
      | none => rfl
      | some o => rw [x.keep a o e nx hm] at h; cases h
  refine ⟨fun a h => y.sub a (x.sub a h), fun a h => ?_, fun a o e nx nm => ?_, y.os.trans x.os, y.wd, fun a h => ?_⟩
  · rcases y.new a h with q | q | q
    · exact x.new a q
    · rcases back a (y.wd.nx a h) q with q | q
      · exact .inr (.inr q)
      · exact .inr (.inl q)
    · rcases x.mu a q with q | q
      · exact .inr (.inr q)
      · exact .inr (.inl q)
  · refine y.keep a o (x.keep a o e nx nm) nx fun hm => ?_
    rcases x.mu a hm with q | q
    · exact nm q
    · rw [e] at q; cases q
  · rcases y.mu a h with q | q
    · exact x.mu a q
    · by_cases nx : cx.X a
      · obtain ⟨o, e⟩ := x.wd.xex a nx
        rw [e] at q; cases q
      · exact back a nx q
theorem StepS.ofStep (x : Step cx F s F' s') : StepS cx env F s ρ ad F' s' ρ ad := ⟨x.sub, fun a h => (x.new a h).imp id .inl, fun a o e nx _ => x.keep a o e nx, x.os, x.wd, fun _ h => .inl h⟩
theorem Frm.step (f : Frm cx ε env F s ρ ad m cm) (w : Wd cx F s) (x : Step cx F s F' s') : Frm cx ε env F' s' ρ ad m cm := by
  have nf : ∀ {a}, Mut env ρ ad a → ¬ F' a := fun h => by
    obtain ⟨o, e⟩ := f.isSome h
    exact x.notF (f.notF h).1 e
  refine ⟨f.en.step x w, nf (.inl rfl), fun n c hc => ⟨nf (.inr (.inl ⟨n, hc⟩)), (f.cf n c hc).2⟩, f.cinj, f.oinj, fun i l hi => ?_⟩
  obtain ⟨_, nx, ⟨o, e⟩, h4, h5⟩ := f.own i l hi
  exact ⟨nf (.inr (.inr ⟨i, l, hi, rfl⟩)), nx, ⟨o, x.keep _ _ e nx⟩, h4, h5⟩
end
set_option genInjectivity false in
structure HereS (cx : XCx) (ε : Sc) (n : Nat) (cf : CfT) (A : Around) (env : Env) (F : AP) (s : Shared) (ρ : List Slot) (ad : NAd) (m cm : SV) : Prop where
  ok : CxOk cx
  sc : ScOK ε
  calls : CallOK cx n cf
  bud : BudE n A
  wd : Wd cx F s
  frm : Frm cx ε env F s ρ ad m cm
theorem HereS.here {cx ε n cf A env F s ρ ad m cm} (H : HereS cx ε n cf A env F s ρ ad m cm) : Here cx ε n cf A env F s ρ ad m cm := ⟨H.ok, H.calls, H.bud, H.wd, H.frm.en⟩
theorem HereS.step {cx ε n cf A env F s ρ ad m cm} {F' : AP} {s' : Shared} (H : HereS cx ε n cf A env F s ρ ad m cm) (x : Step cx F s F' s') : HereS cx ε n cf A env F' s' ρ ad m cm := ⟨H.ok, H.sc, H.calls, H.bud, x.wd, H.frm.step H.wd x⟩
theorem HereS.stepS {cx ε n cf A env F s ρ ad m cm} {F' : AP} {s' : Shared} {ρ' ad' m' cm'} (H : HereS cx ε n cf A env F s ρ ad m cm) (x : StepS cx env F s ρ ad F' s' ρ' ad') (f : Frm cx ε env F' s' ρ' ad' m' cm') : HereS cx ε n cf A env F' s' ρ' ad' m' cm' := ⟨H.ok, H.sc, H.calls, H.bud, x.wd, f⟩
inductive OutRep (cx : XCx) (F : AP) (h : Heap) : Flow → Out → Prop
  | next : OutRep cx F h .next .next
  | brk : OutRep cx F h .brk .brk
  | cont : OutRep cx F h .cont .cont
  | ret {v : Value} {d : D} : Rep cx.T F h v d → OutRep cx F h (.ret v) (.ret d)
noncomputable def PostS (cx : XCx) (ε : Sc) (env : Env) (F : AP) (s : Shared) (ρ : List Slot) (ad : NAd) (ρ' : List Slot) (o : Out) (Q : Flow → Shared → Prop) : Prop :=
  ∀ f F' s' ad' m' cm', StepS cx env F s ρ ad F' s' ρ' ad' → Frm cx ε env F' s' ρ' ad' m' cm' → OutRep cx F' s'.heap f o → Q f s'
theorem PostS.after {cx ε env F s ρ ad ρ' o Q} {F₁ : AP} {s₁ : Shared} {ρ₁ ad₁} (h : PostS cx ε env F s ρ ad ρ' o Q) (x : StepS cx env F s ρ ad F₁ s₁ ρ₁ ad₁) : PostS cx ε env F₁ s₁ ρ₁ ad₁ ρ' o Q :=
  fun f F' s' ad' m' cm' y fr q => h f F' s' ad' m' cm' (x.trans y) fr q
noncomputable def SoundS (cx : XCx) (ε : Sc) (st : Stmt) (sx : S) : Prop :=
  ∀ n cf A env F s ρ ad m cm, HereS cx ε n cf A env F s ρ ad m cm → ∀ ρ' o, ex cf sx ρ = some (ρ', o) → ∀ Q E, PostS cx ε env F s ρ ad ρ' o Q → wpAny (model cx.prog cx.w) A (exec st env) Q E s
noncomputable def SoundSs (cx : XCx) (ε : Sc) (sts : List Stmt) (sx : S) : Prop :=
  ∀ n cf A env F s ρ ad m cm, HereS cx ε n cf A env F s ρ ad m cm → ∀ ρ' o, ex cf sx ρ = some (ρ', o) → ∀ Q E, PostS cx ε env F s ρ ad ρ' o Q → wpAny (model cx.prog cx.w) A (execs sts env) Q E s
theorem zki {cf : CfT} {a b : S} {ρ : List Slot} : ex cf (.seq a b) ρ = (match ex cf a ρ with
    | some (ρ', .next) => ex cf b ρ'
    | some (ρ', o) => some (ρ', o)
    | none => none) := by 
  exact zkd cf
theorem ex_fz {cf : CfT} {i : Nat} {ρ : List Slot} : ex cf (.fz i) ρ = (match ownAt ρ i with
    | some l => some (ρ.set i (.val (.list l)), .next)
    | none => some (ρ, .next)) := by 
  exact exq_fz cf
section
variable {cx : XCx} {ε : Sc}
theorem zac : SoundSs cx ε [] .skip := by
  intro n cf A env F s ρ ad m cm H ρ' o h Q E hQ
  replace h := (zhT cf).symm.trans h; cases h
  exact wpAny_execs_nil (hQ .next F s ad m cm (StepS.refl H.wd) H.frm .next)
theorem zaa {st : Stmt} {sts : List Stmt} {a b : S} (h1 : SoundS cx ε st a) (h2 : SoundSs cx ε sts b) : SoundSs cx ε (st :: sts) (.seq a b) := by
  intro n cf A env F s ρ ad m cm H ρ' o h Q E hQ
  refine wpAny_execs_cons ?_
  replace h := (zkd cf).symm.trans h
  split at h
  · rename_i ρ₁ e1
    refine h1 n cf A env F s ρ ad m cm H ρ₁ .next e1 _ _ fun f F' s' ad' m' cm' x fr q => ?_
    cases q
    exact h2 n cf A env F' s' ρ₁ ad' m' cm' (H.stepS x fr) ρ' o h _ _ (hQ.after x)
  · rename_i ρ₁ o₁ hne e1
    cases h
    refine h1 n cf A env F s ρ ad m cm H _ _ e1 _ _ fun f F' s' ad' m' cm' x fr q => ?_
    cases q with
    | next => exact (hne rfl).elim
    | brk => exact hQ _ F' s' ad' m' cm' x fr .brk
    | cont => exact hQ _ F' s' ad' m' cm' x fr .cont
    | ret r => exact hQ _ F' s' ad' m' cm' x fr (.ret r)
  · cases h
theorem zj8 {n cf A env F s ρ ad m cm} (H : HereS cx ε n cf A env F s ρ ad m cm) {i : Nat} {l : List D} (hs : slotAt ρ i = .own l) (hlt : i < ρ.length) {sl : Slot} (no : ∀ l, sl ≠ .own l)
    (key : ∀ ov, SlotRep cx F s.heap ad i ov (.own l) → SlotRep cx (fun a => F a ∨ a = ad i) s.heap ad i ov sl) :
    ∃ F', StepS cx env F s ρ ad F' s (ρ.set i sl) ad ∧ Frm cx ε env F' s (ρ.set i sl) ad m cm := by
  have f := H.frm
  obtain ⟨nf, nx, ⟨o, g⟩, h4, h5⟩ := f.own i l hs
  have hset : ∀ j, slotAt (ρ.set i sl) j = if j = i then sl else slotAt ρ j := fun j => by rw [zaP, if_pos hlt]
  have hsub : ∀ a, F a → (F a ∨ a = ad i) := fun _ h => .inl h
  have wd' : Wd cx (fun a => F a ∨ a = ad i) s := ⟨H.wd.base, H.ok.xi _ _ _ _ H.wd.xi hsub (fun _ _ _ e => e), H.wd.gens, fun a o h nx => .inl (H.wd.f0 a o h nx), fun a h => h.elim (H.wd.lt a) fun e => ⟨_, e ▸ g⟩, fun a h => h.elim (H.wd.nx a) fun e => e ▸ nx, H.wd.xex⟩
  have slots : ∀ j ov, SlotRep cx F s.heap ad j ov (slotAt ρ j) → SlotRep cx (fun a => F a ∨ a = ad i) s.heap ad j ov (slotAt (ρ.set i sl) j) := by
    intro j ov q'
    rw [hset]
    by_cases hj : j = i
    · subst hj
      rw [if_pos rfl]
      rw [hs] at q'
      exact key ov q'
    · rw [if_neg hj]
      generalize hsl : slotAt ρ j = sl at q'
      cases q' with
      | unset => exact .unset
      | val q => exact .val (q.mono hsub fun _ _ _ e => e)
      | own nf' nx' g z q hd' => exact .own (fun h => h.elim nf' fun e => hj (f.oinj j i _ _ hsl hs e)) nx' g z (q.mono hsub fun _ _ _ e => e) hd'
      | dic nf' nx' sm g q z hd' => exact .dic (fun h => h.elim nf' fun e => hj (f.oinj j i _ _ hsl hs e)) nx' sm g (q.mono hsub fun _ _ _ e => e) z hd'
      | fdic a b c q z => exact .fdic (.inl a) b c (q.mono hsub fun _ _ _ e => e) z
      | app a b c => exact .app (.inl a) b c
  have back : ∀ j l', slotAt (ρ.set i sl) j = .own l' → slotAt ρ j = .own l' ∧ j ≠ i := fun j l' e => by
    rw [hset] at e
    by_cases hj : j = i
    · rw [if_pos hj] at e; exact absurd e (no l')
    · rw [if_neg hj] at e; exact ⟨e, hj⟩
  refine ⟨fun a => F a ∨ a = ad i, ⟨hsub, fun a h => h.imp id fun e => .inr (.inr (.inr ⟨i, l, hs, e⟩)), fun _ _ e _ _ => e, rfl, wd', fun a h => ?_⟩, ?_⟩
  · rcases h with h | h | ⟨j, l', hj, rfl⟩
    · exact .inl (.inl h)
    · exact .inl (.inr (.inl h))
    · exact .inl (.inr (.inr ⟨j, l', (back j l' hj).1, rfl⟩))
  · refine ⟨⟨f.en.kind, f.en.names, f.en.glob, f.en.blt, f.en.code, f.en.lx, f.en.cxx, f.en.ns, f.en.cells, fun y j hy => (f.en.vars y j hy).imp (fun ⟨k, q⟩ => ⟨k, slots j _ q⟩) fun ⟨k, c, q⟩ => ⟨k, c, slots j _ q⟩⟩,
      fun h => h.elim f.lf fun e => h4 e.symm, fun n c hc => ⟨fun h => h.elim (f.cf n c hc).1 fun e => h5 n (e ▸ hc), (f.cf n c hc).2⟩, f.cinj, fun j k l1 l2 h1 h2 e => f.oinj j k _ _ (back j l1 h1).1 (back k l2 h2).1 e, fun j l1 h1 => ?_⟩
    obtain ⟨h1, hj⟩ := back j l1 h1
    obtain ⟨a1, a2, a3, a4, a5⟩ := f.own j l1 h1
    exact ⟨fun h => h.elim a1 fun e => hj (f.oinj j i _ _ h1 hs e), a2, a3, a4, a5⟩
theorem frozen {n cf A env F s ρ ad m cm} (H : HereS cx ε n cf A env F s ρ ad m cm) {i : Nat} {l : List D} (h : ownAt ρ i = some l) :
    ∃ F', StepS cx env F s ρ ad F' s (ρ.set i (.val (.list l))) ad ∧ Frm cx ε env F' s (ρ.set i (.val (.list l))) ad m cm := by
  obtain ⟨hs, hlt, hd⟩ := zcx h
  refine zj8 H hs hlt (fun _ e => nomatch e) fun ov q => ?_
  cases q with
  | dic _ _ _ _ _ _ hd' => rw [hd] at hd'; cases hd'
  | own _ _ g z q => exact .val (.list (.inr rfl) g z (q.mono (fun _ h => .inl h) fun _ _ _ e => e))
theorem zc6 {st : Stmt} {i : Nat} {b : S} (hv : ∃ x, ε.vars.lookup x = some i) (h : SoundS cx ε st b) : SoundS cx ε st (.seq (.fz i) b) := by
  intro n cf A env F s ρ ad m cm H ρ' o he Q E hQ
  rw [zki, ex_fz] at he
  cases hown : ownAt ρ i with
  | none =>
    rw [hown] at he
    exact h n cf A env F s ρ ad m cm H ρ' o he Q E hQ
  | some l =>
    rw [hown] at he
    obtain ⟨F', x, f⟩ := frozen H hown
    exact h n cf A env F' s _ ad m cm (H.stepS x f) ρ' o he Q E (hQ.after x)
end
section
variable {cx : XCx} {ε : Sc} {n : Nat} {cf : CfT} {A : Around} {env : Env} {F F₀ : AP} {s s₀ : Shared} {ρ : List Slot} {ad ad' : NAd} {m cm m' cm' : SV}
theorem zhc (H : HereS cx ε n cf A env F s ρ ad m cm) {b : Addr} (hb : Mut env ρ ad b) {h' : Heap} (sb : Heap.SameBut b s.heap h') (k : Nat) :
    Wd cx F { s with heap := h', toks := k } ∧ (∀ a o, F a → s.heap.get? a = some o → h'.get? a = some o) := by
  obtain ⟨nf, nx⟩ := H.frm.notF hb
  have hk : ∀ a o, a ≠ b → s.heap.get? a = some o → h'.get? a = some o := fun a o h e => (sb.2 a h).trans e
  have fne : ∀ a, F a → a ≠ b := fun a h e => nf (e ▸ h)
  refine ⟨⟨fun a o e x => hk a o (fne a (H.wd.f0 a o e x)) (H.wd.base a o e x), H.ok.xi _ _ _ _ H.wd.xi (fun _ h => h) (fun a o h e => hk a o (h.elim (fne a) fun h e => nx (e ▸ h)) e), H.wd.gens, H.wd.f0, fun a f => let ⟨o, e⟩ := H.wd.lt a f; ⟨o, hk a o (fne a f) e⟩, H.wd.nx,
    fun a f => let ⟨o, e⟩ := H.wd.xex a f; ⟨o, hk a o (fun e => nx (e ▸ f)) e⟩⟩, fun a o f e => hk a o (fne a f) e⟩
theorem zd4 (H₀ : HereS cx ε n cf A env F₀ s₀ ρ ad m cm) (x : Step cx F₀ s₀ F s) {b : Addr} (hb : Mut env ρ ad b) {h' : Heap} (sb : Heap.SameBut b s.heap h') (k : Nat) {i : Nat} {sl : Slot}
    (hmu : ∀ l, sl = .own l → Mut env ρ ad (ad' i) ∨ s₀.heap.get? (ad' i) = none) (had : ∀ j, j ≠ i → ad' j = ad j) : StepS cx env F₀ s₀ ρ ad F { s with heap := h', toks := k } (ρ.set i sl) ad' := by
  refine ⟨x.sub, fun a h => (x.new a h).imp id .inl, fun a o e nx nm => ?_, x.os, (zhc (H₀.step x) hb sb k).1, fun a h => ?_⟩
  · exact (sb.2 a fun e => nm (e ▸ hb)).trans (x.keep a o e nx)
  · rcases h with h | h | ⟨j, l, hj, rfl⟩
    · exact .inl (.inl h)
    · exact .inl (.inr (.inl h))
    · rw [zaP] at hj
      by_cases e : j = i
      · subst e
        rw [if_pos rfl] at hj
        split at hj
        · exact hmu l hj
        · cases hj
      · rw [if_neg e] at hj
        rw [had j e]
        exact .inl (.inr (.inr ⟨j, l, hj, rfl⟩))
set_option genInjectivity false in
structure NewOwn (cx : XCx) (env : Env) (F : AP) (h' : Heap) (ρ : List Slot) (ad ad' : NAd) (i : Nat) : Prop where
  nf : ¬ F (ad' i)
  nx : ¬ cx.X (ad' i)
  is : ∃ o, h'.get? (ad' i) = some o
  nl : ad' i ≠ env.locals
  nc : ∀ n, env.cells.lookup n ≠ some (ad' i)
  oth : ∀ j l, j ≠ i → slotAt ρ j = .own l → ad j ≠ ad' i
theorem Frm.put (H : HereS cx ε n cf A env F s ρ ad m cm) {b : Addr} (hb : Mut env ρ ad b) {h' : Heap} (sb : Heap.SameBut b s.heap h') (k : Nat) {i : Nat} {sl : Slot}
    (hns : h'.Ns env.locals m') (hcells : ∀ n c, env.cells.lookup n = some c → h'.IsCell c (cm' n))
    (hvars : ∀ x j, ε.vars.lookup x = some j → j ≠ i → m' x = m x ∧ cm' x = cm x)
    (hnew : ∀ x, ε.vars.lookup x = some i → (ε.kinds.lookup x = some .local → SlotRep cx F h' ad' i (m' x) sl) ∧ (ε.kinds.lookup x ≠ some .local → SlotRep cx F h' ad' i (cm' x) sl))
    (had : ∀ j, j ≠ i → ad' j = ad j) (happ : ad' i = ad i ∨ ∀ j, slotAt ρ j ≠ .app i)
    (hbo : ∀ j l, slotAt ρ j = .own l → j ≠ i → ad j ≠ b) (hown : ∀ l, sl = .own l → NewOwn cx env F h' ρ ad ad' i) :
    Frm cx ε env F { s with heap := h', toks := k } (ρ.set i sl) ad' m' cm' := by
  have f := H.frm
  obtain ⟨w', keep⟩ := zhc H hb sb k
  have keepB : ∀ a o, a ≠ b → s.heap.get? a = some o → h'.get? a = some o := fun a o h e => (sb.2 a h).trans e
  have old : ∀ j ov, j ≠ i → SlotRep cx F s.heap ad j ov (slotAt ρ j) → SlotRep cx F h' ad' j ov (slotAt ρ j) := by
    intro j ov hj q
    have hbo := fun l e => hbo j l e hj
    have happ := happ.imp id fun h => h j
    generalize slotAt ρ j = x at q hbo happ
    cases q with
    | unset => exact .unset
    | val q => exact .val (q.mono (fun _ h => h) keep)
    | own nf nx g z q hd =>
      rw [← had j hj] at nf nx g ⊢
      exact .own nf nx (keepB _ _ (by rw [had j hj]; exact hbo _ rfl) g) z (q.mono (fun _ h => h) keep) hd
    | dic nf nx sm g q z hd =>
      rw [← had j hj] at nf nx sm g ⊢
      obtain ⟨o, es, ep, ho, r⟩ := g
      exact .dic nf nx sm ⟨o, es, ep, keepB _ _ (by rw [had j hj]; exact hbo _ rfl) ho, r⟩ (q.mono (fun _ h => h) keep) z hd
    | fdic fb sm g q z =>
      obtain ⟨o, es, ep, ho, r⟩ := g
      exact .fdic fb sm ⟨o, es, ep, keep _ _ fb ho, r⟩ (q.mono (fun _ h => h) keep) z
    | @app b' o k fb g e =>
      refine .app fb (keep _ _ fb g) ?_
      by_cases hk : k = i
      · subst hk
        rcases happ with h | h
        · rw [h]; exact e
        · exact absurd rfl h
      · rw [had k hk]; exact e
  have slots : ∀ x j, ε.vars.lookup x = some j →
    (ε.kinds.lookup x = some .local ∧ SlotRep cx F h' ad' j (m' x) (slotAt (ρ.set i sl) j)) ∨
    ((ε.kinds.lookup x = some .cell ∨ ε.kinds.lookup x = some .free) ∧ (∃ c, env.cells.lookup x = some c) ∧ SlotRep cx F h' ad' j (cm' x) (slotAt (ρ.set i sl) j)) := by
    intro x j hx
    rw [zaP]
    by_cases e : j = i
    · subst e
      rw [if_pos rfl]
      have nl : ∀ {k : NameKind}, ε.kinds.lookup x = some k → k ≠ .local → ε.kinds.lookup x ≠ some .local := fun h hk e => hk (by rw [h] at e; exact Option.some.inj e)
      rcases f.en.vars x j hx with ⟨k, q⟩ | ⟨k, c, q⟩
      · left
        refine ⟨k, ?_⟩
        split
        · exact (hnew x hx).1 k
        · exact .unset
      · right
        refine ⟨k, c, ?_⟩
        split
        · refine (hnew x hx).2 fun e => ?_
          rw [e] at k; rcases k with k | k <;> cases k
        · exact .unset
    · rw [if_neg e]
      obtain ⟨e1, e2⟩ := hvars x j hx e
      rw [e1, e2]
      exact (f.en.vars x j hx).imp (fun ⟨k, q⟩ => ⟨k, old j _ e q⟩) fun ⟨k, c, q⟩ => ⟨k, c, old j _ e q⟩
  refine ⟨⟨f.en.kind, f.en.names, f.en.glob, f.en.blt, f.en.code, f.en.lx, f.en.cxx, hns, hcells, slots⟩, f.lf, f.cf, f.cinj, fun p q l1 l2 h1 h2 e => ?_, fun j l hj => ?_⟩
  · rw [zaP] at h1 h2
    by_cases hp : p = i
    · by_cases hq : q = i
      · rw [hp, hq]
      · subst hp
        rw [if_pos rfl] at h1
        rw [if_neg hq] at h2
        split at h1
        · have := (hown l1 h1).oth q l2 hq h2
          rw [had q hq] at e
          exact absurd e.symm this
        · cases h1
    · by_cases hq : q = i
      · subst hq
        rw [if_neg hp] at h1
        rw [if_pos rfl] at h2
        split at h2
        · have := (hown l2 h2).oth p l1 hp h1
          rw [had p hp] at e
          exact absurd e this
        · cases h2
      · rw [if_neg hp] at h1
        rw [if_neg hq] at h2
        rw [had p hp, had q hq] at e
        exact f.oinj p q l1 l2 h1 h2 e
  · rw [zaP] at hj
    by_cases e : j = i
    · subst e
      rw [if_pos rfl] at hj
      split at hj
      · have q := hown l hj
        exact ⟨q.nf, q.nx, q.is, q.nl, q.nc⟩
      · cases hj
    · rw [if_neg e] at hj
      rw [had j e]
      obtain ⟨a1, a2, ⟨o, g⟩, a4, a5⟩ := f.own j l hj
      exact ⟨a1, a2, ⟨o, keepB _ _ (hbo j l hj e) g⟩, a4, a5⟩
theorem zcv (H₀ : HereS cx ε n cf A env F₀ s₀ ρ ad m cm) (st : Step cx F₀ s₀ F s) {x : Str} {i : Nat} (hx : ε.vars.lookup x = some i) (hfree : ε.kinds.lookup x ≠ some .free) {v : Value} {sl : Slot}
    (had : ∀ j, j ≠ i → ad' j = ad j) (happ : ad' i = ad i ∨ ∀ j, slotAt ρ j ≠ .app i)
    (hv : ∀ h', (∀ a o, F a ∨ ¬ Mut env ρ ad a → s.heap.get? a = some o → h'.get? a = some o) → SlotRep cx F h' ad' i (some v) sl)
    (hmu : ∀ l, sl = .own l → s₀.heap.get? (ad' i) = none ∧ ¬ F (ad' i) ∧ ¬ cx.X (ad' i) ∧ ∃ o, s.heap.get? (ad' i) = some o)
    {Q : Unit → Shared → Prop} {E : VP}
    (hQ : ∀ s' m' cm', (∀ a o, ¬ Mut env ρ ad a → s.heap.get? a = some o → s'.heap.get? a = some o) → StepS cx env F₀ s₀ ρ ad F s' (ρ.set i sl) ad' → Frm cx ε env F s' (ρ.set i sl) ad' m' cm' → Q () s') :
    wpAny (model cx.prog cx.w) A (storeName env x v) Q E s := by
  have H := H₀.step st
  have f := H.frm
  have notMut : ∀ l, sl = .own l → ¬ Mut env ρ ad (ad' i) := fun l hl hm => by
    obtain ⟨o, e⟩ := H₀.frm.isSome hm
    rw [(hmu l hl).1] at e; cases e
  have mkOwn : ∀ h', (∀ a o, ¬ Mut env ρ ad a → s.heap.get? a = some o → h'.get? a = some o) → ∀ l, sl = .own l → NewOwn cx env F h' ρ ad ad' i := by
    intro h' hk l hl
    obtain ⟨a1, a2, a3, o, a4⟩ := hmu l hl
    have nm := notMut l hl
    exact ⟨a2, a3, ⟨o, hk _ _ nm a4⟩, fun e => nm (.inl e), fun n e => nm (.inr (.inl ⟨n, e⟩)), fun j l' hj hs e => nm (.inr (.inr ⟨j, l', hs, e.symm⟩))⟩
  have others : ∀ y j, ε.vars.lookup y = some j → j ≠ i → y ≠ x := fun y j hy hj e => hj (by subst e; rw [hx] at hy; exact (Option.some.inj hy).symm)
  have same : ∀ y, ε.vars.lookup y = some i → y = x := fun y hy => H.sc.inj y x i hy hx
  rcases f.en.vars x i hx with ⟨hk, _⟩ | ⟨hk, ⟨c, hc⟩, _⟩
  · have hl : env.kindOf x = some .local := by unfold Env.kindOf; rw [f.en.names]; exact hk
    have hp : (env.scope.kind == .class || (env.scope.kind == .module && env.locals != env.globals)) = false := by rw [f.en.kind]; rfl
    refine wpAny_storeName_local hl f.en.ns (fun h' hn sb => ?_) hp
    have hb : Mut env ρ ad env.locals := .inl rfl
    have hk1 : ∀ a o, ¬ Mut env ρ ad a → s.heap.get? a = some o → h'.get? a = some o := fun a o nm e => (sb.2 a fun e => nm (e ▸ hb)).trans e
    have hk2 : ∀ a o, F a ∨ ¬ Mut env ρ ad a → s.heap.get? a = some o → h'.get? a = some o := fun a o nm e => nm.elim (fun h => (sb.2 a fun e => f.lf (e ▸ h)).trans e) fun h => hk1 a o h e
    refine hQ _ (fun y => if y = x then some v else m y) cm hk1 (zd4 H₀ st hb sb _ (fun l hl => .inr (hmu l hl).1) had) ?_
    refine Frm.put H hb sb _ hn (fun n c hc => ?_) (fun y j hy hj => ⟨if_neg (others y j hy hj), rfl⟩) (fun y hy => ?_) had happ (fun j l hs _ => (f.own j l hs).2.2.2.1) (mkOwn h' hk1)
    · obtain ⟨o, g, d⟩ := f.en.cells n c hc
      exact ⟨o, (sb.2 c (f.cf n c hc).2).trans g, d⟩
    · have ey := same y hy
      refine ⟨fun _ => ?_, fun h => absurd (ey ▸ hk) h⟩
      show SlotRep cx F h' ad' i (if y = x then some v else m y) sl
      rw [if_pos ey]
      exact hv h' hk2
  · have hl : env.kindOf x = some .cell := by
      unfold Env.kindOf; rw [f.en.names]
      exact hk.resolve_right hfree
    refine wpAny_storeName_cell f.en.kind hl hc (f.en.cells x c hc) (fun h' hn sb => ?_)
    have hb : Mut env ρ ad c := .inr (.inl ⟨x, hc⟩)
    have hk1 : ∀ a o, ¬ Mut env ρ ad a → s.heap.get? a = some o → h'.get? a = some o := fun a o nm e => (sb.2 a fun e => nm (e ▸ hb)).trans e
    have hk2 : ∀ a o, F a ∨ ¬ Mut env ρ ad a → s.heap.get? a = some o → h'.get? a = some o := fun a o nm e => nm.elim (fun h => (sb.2 a fun e => (f.cf x c hc).1 (e ▸ h)).trans e) fun h => hk1 a o h e
    refine hQ _ m (fun y => if y = x then some v else cm y) hk1 (zd4 H₀ st hb sb s.toks (fun l hl => .inr (hmu l hl).1) had) ?_
    refine Frm.put H hb sb _ (f.en.ns.sameBut sb (Ne.symm (f.cf x c hc).2)) (fun n c' hc' => ?_) (fun y j hy hj => ⟨rfl, if_neg (others y j hy hj)⟩) (fun y hy => ?_) had happ (fun j l hs _ e => (f.own j l hs).2.2.2.2 x (e ▸ hc)) (mkOwn h' hk1)
    · by_cases e : n = x
      · subst e
        rw [hc] at hc'; cases hc'
        rw [if_pos rfl]
        exact hn
      · rw [if_neg e]
        obtain ⟨o, g, d⟩ := f.en.cells n c' hc'
        exact ⟨o, (sb.2 c' fun e' => e (f.cinj n x c (e' ▸ hc') hc)).trans g, d⟩
    · have ey := same y hy
      refine ⟨fun h => ?_, fun _ => ?_⟩
      · rw [ey] at h; rw [h] at hk; rcases hk with hk | hk <;> cases hk
      · show SlotRep cx F h' ad' i (if y = x then some v else cm y) sl
        rw [if_pos ey]
        exact hv h' hk2
theorem zc3 (H₀ : HereS cx ε n cf A env F₀ s₀ ρ ad m cm) (st : Step cx F₀ s₀ F s) {x : Str} {i : Nat} (hx : ε.vars.lookup x = some i) (hfree : ε.kinds.lookup x ≠ some .free) {v : Value} {sl : Slot}
    (had : ∀ j, j ≠ i → ad' j = ad j) (happ : ad' i = ad i ∨ ∀ j, slotAt ρ j ≠ .app i)
    (hv : ∀ h', (∀ a o, F a ∨ ¬ Mut env ρ ad a → s.heap.get? a = some o → h'.get? a = some o) → SlotRep cx F h' ad' i (some v) sl)
    (hmu : ∀ l, sl = .own l → s₀.heap.get? (ad' i) = none ∧ ¬ F (ad' i) ∧ ¬ cx.X (ad' i) ∧ ∃ o, s.heap.get? (ad' i) = some o)
    {Q : Unit → Shared → Prop} {E : VP}
    (hQ : ∀ s' m' cm', StepS cx env F₀ s₀ ρ ad F s' (ρ.set i sl) ad' → Frm cx ε env F s' (ρ.set i sl) ad' m' cm' → Q () s') :
    wpAny (model cx.prog cx.w) A (storeName env x v) Q E s := zcv H₀ st hx hfree had happ hv hmu fun s' m' cm' _ => hQ s' m' cm'
end
section
variable {cx : XCx} {ε : Sc} {n : Nat} {cf : CfT} {A : Around} {env : Env} {F F₀ F' : AP} {s s₀ s' : Shared} {ρ ρ' : List Slot} {ad ad' : NAd} {m cm m' cm' : SV}
theorem StepS.rep (x : StepS cx env F s ρ ad F' s' ρ' ad') (H : HereS cx ε n cf A env F s ρ ad m cm) {v : Value} {d : D} (r : Rep cx.T F s.heap v d) : Rep cx.T F' s'.heap v d :=
  r.mono x.sub fun a o f e => x.keep a o e (H.wd.nx a f) fun hm => (H.frm.notF hm).1 f
theorem StepS.repL (x : StepS cx env F s ρ ad F' s' ρ' ad') (H : HereS cx ε n cf A env F s ρ ad m cm) {v : List Value} {d : List D} (r : RepL cx.T F s.heap v d) : RepL cx.T F' s'.heap v d :=
  r.mono x.sub fun a o f e => x.keep a o e (H.wd.nx a f) fun hm => (H.frm.notF hm).1 f
theorem zc4 (H₀ : HereS cx ε n cf A env F₀ s₀ ρ ad m cm) (st : Step cx F₀ s₀ F s) {x : Str} {i : Nat} (hx : ε.vars.lookup x = some i) (hfree : ε.kinds.lookup x ≠ some .free) {v : Value} {d : D} (hv : Rep cx.T F s.heap v d)
    {Q : Unit → Shared → Prop} {E : VP}
    (hQ : ∀ s' m' cm', StepS cx env F₀ s₀ ρ ad F s' (ρ.set i (.val d)) ad → Frm cx ε env F s' (ρ.set i (.val d)) ad m' cm' → Q () s') :
    wpAny (model cx.prog cx.w) A (storeName env x v) Q E s :=
  zc3 H₀ st hx hfree (sl := .val d) (ad' := ad) (fun _ _ => rfl) (.inl rfl) (fun h' hk => .val (hv.mono (fun _ h => h) fun a o f e => hk a o (.inl f) e)) (fun _ e => nomatch e) hQ
theorem zhn {x : X} {d : D} (h : ev1 cf x ρ = some d) : ∃ r, ev cf x ρ = some [r] ∧ r.fz = some d := by
  unfold ev1 at h
  split at h
  · rename_i r e; exact ⟨r, e, h⟩
  · cases h
theorem zeh (H : HereS cx ε n cf A env F s ρ ad m cm) {e : Expr} {x : X} (h : Sound cx ε e x) {d : D} (hd : ev1 cf x ρ = some d) {Q E : VP}
    (hQ : ∀ v F' s', Step cx F s F' s' → Rep cx.T F' s'.heap v d → Q v s') : wpAny (model cx.prog cx.w) A (eval e env) Q E s := by
  obtain ⟨r, e1, e2⟩ := zhn hd
  refine h.ev n cf A env F s ρ ad m cm H.here r e1 _ _ fun v F' s' st q => ?_
  obtain ⟨F'', st', _, q'⟩ := st.fz H.ok H.wd q e2
  exact hQ v F'' s' st' q'
end
section
variable {cx : XCx} {ε : Sc}
theorem zf8 {pos : Pos} : SoundS cx ε (.Break pos) .brk := by
  intro n cf A env F s ρ ad m cm H ρ' o h Q E hQ
  replace h := (zkh cf).symm.trans h; cases h
  exact wpAny_Break (hQ .brk F s ad m cm (StepS.refl H.wd) H.frm .brk)
theorem zal {e : Expr} {x : X} {pos : Pos} (hx : Sound cx ε e x) : SoundS cx ε (.Return (some e) pos) (.ret x) := by
  intro n cf A env F s ρ ad m cm H ρ' o h Q E hQ
  replace h := (zke cf).symm.trans h
  obtain ⟨d, hd, e'⟩ := Option.map_eq_some_iff.mp h
  cases e'
  refine wpAny_Return_some (zeh H hx hd fun v F' s' st q => ?_)
  exact hQ _ F' s' ad m cm (.ofStep st) (H.step st).frm (.ret q)
theorem zaj {c : Expr} {x : X} {bs es : List Stmt} {a b : S} {pos : Pos} (hx : Sound cx ε c x) (ha : SoundSs cx ε bs a) (hb : SoundSs cx ε es b) : SoundS cx ε (.If c bs es pos) (.ite x a b) := by
  intro n cf A env F s ρ ad m cm H ρ' o h Q E hQ
  replace h := (zkf cf).symm.trans h
  split at h
  · rename_i e
    refine wpAny_If (hx.tr n cf A env F s ρ ad m cm H.here true e _ _ fun F' s' st => ?_)
    show wpAny _ _ _ _ _ _
    exact ha n cf A env F' s' ρ ad m cm (H.step st) ρ' o h _ _ (hQ.after (.ofStep st))
  · rename_i e
    refine wpAny_If (hx.tr n cf A env F s ρ ad m cm H.here false e _ _ fun F' s' st => ?_)
    show wpAny _ _ _ _ _ _
    exact hb n cf A env F' s' ρ ad m cm (H.step st) ρ' o h _ _ (hQ.after (.ofStep st))
  · cases h
theorem zfh {c : Expr} {x : X} {msg : Option Expr} {pos : Pos} (hx : Sound cx ε c x) : SoundS cx ε (.Assert c msg pos) (.assert x) := by
  intro n cf A env F s ρ ad m cm H ρ' o h Q E hQ
  replace h := (ze0 cf).symm.trans h
  split at h
  · rename_i e
    cases h
    refine wpAny_Assert_holds (hx.tr n cf A env F s ρ ad m cm H.here true e _ _ fun F' s' st => ?_)
    exact ⟨rfl, hQ .next F' s' ad m cm (.ofStep st) (H.step st).frm .next⟩
  · cases h
theorem zad {x : Str} {i : Nat} {e : Expr} {y : X} {pos' pos : Pos} (hx : ε.vars.lookup x = some i) (hf : ε.kinds.lookup x ≠ some .free) (h : Sound cx ε e y) (hs : ∀ env : Env, env.scope.kind = .function → env.scope.names = ε.kinds → swapsWith e (some (.Name x pos')) pos.line env = pure false) :
    SoundS cx ε (.Assign [.Name x pos'] e pos) (.assign i y) := by
  intro n cf A env F s ρ ad m cm H ρ' o he Q E hQ
  replace he := (zcG cf).symm.trans he
  obtain ⟨d, hd, e'⟩ := Option.map_eq_some_iff.mp he
  cases e'
  refine wpAny_Assign_Name (zeh H h hd fun v F' s' st q => ?_) (hs env H.frm.en.kind H.frm.en.names)
  exact zc4 H st hx hf q fun s'' m' cm' x f => hQ .next F' s'' ad m' cm' x f .next
theorem zfu {i : Nat} {ρ : List Slot} (h : noApp i ρ = true) : ∀ j, slotAt ρ j ≠ .app i := by
  intro j e
  unfold noApp at h
  rw [List.all_eq_true] at h
  unfold slotAt at e
  rw [List.getD_eq_getElem?_getD] at e
  cases hj : ρ[j]? with
  | none => rw [hj] at e; cases e
  | some sl =>
    rw [hj] at e
    have := h sl (List.mem_of_getElem? hj)
    have e' : sl = .app i := e
    subst e'
    simp at this
theorem zbn {x : Str} {i : Nat} {e : Expr} {y : X} {pos' pos : Pos} (hx : ε.vars.lookup x = some i) (hf : ε.kinds.lookup x ≠ some .free) (h : Sound cx ε e y) (hs : ∀ env : Env, env.scope.kind = .function → env.scope.names = ε.kinds → swapsWith e (some (.Name x pos')) pos.line env = pure false) :
    SoundS cx ε (.Assign [.Name x pos'] e pos) (.assignO i y) := by
  intro n cf A env F s ρ ad m cm H ρ' o he Q E hQ
  replace he := (zcV cf).symm.trans he
  split at he
  · rename_i hna
    split at he
    · rename_i l e1
      by_cases hd : dSlot i = true
      · rw [if_pos hd] at he; cases he
      rw [if_neg hd] at he
      have hd : dSlot i = false := by simpa using hd
      cases he
      refine wpAny_Assign_Name (h.ev n cf A env F s ρ ad m cm H.here _ e1 _ _ fun v F' s' st q => ?_) (hs env H.frm.en.kind H.frm.en.names)
      cases q with
      | @own a vs k l lo nf nx g z q =>
        refine zc3 H st hx hf (sl := .own l) (ad' := fun j => if j = i then a else ad j) (fun j hj => if_neg hj) (.inr (zfu hna)) (fun h' hk => ?_) (fun l' _ => ?_) fun s'' m' cm' x f => hQ .next F' s'' _ m' cm' x f .next
        · have nm : ¬ Mut env ρ ad a := fun hm => by
            obtain ⟨o, e⟩ := H.frm.isSome hm
            rw [lo] at e; cases e
          have : SlotRep cx F' h' (fun j => if j = i then a else ad j) i (some (.ref ((fun j => if j = i then a else ad j) i))) (.own l) := by
            refine .own (vs := vs) (n := k) ?_ ?_ ?_ z (q.mono (fun _ h => h) fun b o f e => hk b o (.inl f) e) hd <;> simp only [if_true]
            · exact nf
            · exact nx
            · exact hk a _ (.inr nm) g
          simpa using this
        · simp only [if_true]
          exact ⟨lo, nf, nx, _, g⟩
    · rename_i d e1
      cases he
      refine wpAny_Assign_Name (h.ev n cf A env F s ρ ad m cm H.here _ e1 _ _ fun v F' s' st q => ?_) (hs env H.frm.en.kind H.frm.en.names)
      cases q with
      | val q => exact zc4 H st hx hf q fun s'' m' cm' x f => hQ .next F' s'' ad m' cm' x f .next
    · cases he
  · cases he
end
set_option genInjectivity false in
structure Iter (cx : XCx) (A : Around) (F₀ : AP) (s₀ : Shared) (items : List D) (I : Addr) (F : AP) (s : Shared) (fp wr : List Addr) (P : Nat → Value → Prop) (St : Nat → Heap → Prop) : Prop where
  st : Step cx F₀ s₀ F s
  W : ∀ A' : Around, A'.handled = none → Walks cx.prog cx.w A' I fp wr items.length P St
  s0 : St 0 s.heap
  new : ∀ b ∈ wr, s₀.heap.get? b = none ∧ ¬ F b
  one : ∀ b ∈ wr, b = I
  deps : ∀ b ∈ fp, b ∈ wr ∨ F b
  item : ∀ i v, P i v → ∃ d, items[i]? = some d ∧ Rep cx.T F s.heap v d
  ty : ∀ i h, St i h → ∃ o T, h.get? I = some o ∧ o.cls = .type T ∧ ["enumerate", "zip", "dict_itemiterator", "dict_reverseitemiterator", "odict_iterator", "itertools.zip_longest", "itertools.pairwise"].contains T = false
  lim : items.length ≤ lim
noncomputable def SoundI (cx : XCx) (ε : Sc) (it : Expr) (x : X) : Prop :=
  ∀ n cf A env F s ρ ad m cm, Here cx ε n cf A env F s ρ ad m cm → ∀ items, evI cf x ρ = some items → ∀ (Q E : VP),
    (∀ I F' s' fp wr P St, Iter cx A F s items I F' s' fp wr P St → Q (.ref I) s') →
    wpAny (model cx.prog cx.w) A (eval it env) (fun v s₁ => wpAny (model cx.prog cx.w) A (pyIter v) Q E s₁) E s
noncomputable def SoundA (cx : XCx) (ε : Sc) (target : Expr) (put : D → List Slot → Option (List Slot)) : Prop :=
  ∀ n cf A env F s ρ ad m cm, HereS cx ε n cf A env F s ρ ad m cm → ∀ v d ρ', Rep cx.T F s.heap v d → put d ρ = some ρ' → ∀ (Q : Unit → Shared → Prop) (E : VP),
    (∀ F' s' m' cm', StepS cx env F s ρ ad F' s' ρ' ad → Frm cx ε env F' s' ρ' ad m' cm' → Q () s') → wpAny (model cx.prog cx.w) A (assign target env v) Q E s
section
variable {cx : XCx} {ε : Sc} {n : Nat} {cf : CfT} {A : Around} {env : Env} {F F₀ F' : AP} {s s₀ s' : Shared} {ρ ρ' : List Slot} {ad ad' : NAd} {m cm m' cm' : SV}
theorem Frm.kept (f : Frm cx ε env F s ρ ad m cm) {h' : Heap} (k : Nat) (hk : ∀ a o, F a ∨ Mut env ρ ad a → s.heap.get? a = some o → h'.get? a = some o) :
    Frm cx ε env F { s with heap := h', toks := k } ρ ad m cm := by
  have hl : Mut env ρ ad env.locals := .inl rfl
  have slots : ∀ j ov, SlotRep cx F s.heap ad j ov (slotAt ρ j) → SlotRep cx F h' ad j ov (slotAt ρ j) := by
    intro j ov q
    have hm : ∀ l, slotAt ρ j = .own l → Mut env ρ ad (ad j) := fun l e => .inr (.inr ⟨j, l, e, rfl⟩)
    generalize slotAt ρ j = x at q hm
    cases q with
    | unset => exact .unset
    | val q => exact .val (q.mono (fun _ h => h) fun a o f e => hk a o (.inl f) e)
    | own nf nx g z q hd => exact .own nf nx (hk _ _ (.inr (hm _ rfl)) g) z (q.mono (fun _ h => h) fun a o f e => hk a o (.inl f) e) hd
    | dic nf nx sm g q z hd =>
      obtain ⟨o, es, ep, ho, r⟩ := g
      exact .dic nf nx sm ⟨o, es, ep, hk _ _ (.inr (hm _ rfl)) ho, r⟩ (q.mono (fun _ h => h) fun a o f e => hk a o (.inl f) e) z hd
    | fdic fb sm g q z =>
      obtain ⟨o, es, ep, ho, r⟩ := g
      exact .fdic fb sm ⟨o, es, ep, hk _ _ (.inl fb) ho, r⟩ (q.mono (fun _ h => h) fun a o f e => hk a o (.inl f) e) z
    | app fb g e => exact .app fb (hk _ _ (.inl fb) g) e
  refine ⟨⟨f.en.kind, f.en.names, f.en.glob, f.en.blt, f.en.code, f.en.lx, f.en.cxx, f.en.ns.at' fun o e => hk _ o (.inr hl) e, fun n c hc => let ⟨o, g, d⟩ := f.en.cells n c hc; ⟨o, hk _ o (.inr (.inr (.inl ⟨n, hc⟩))) g, d⟩,
    fun y i hy => (f.en.vars y i hy).imp (fun ⟨k, q⟩ => ⟨k, slots i _ q⟩) fun ⟨k, c, q⟩ => ⟨k, c, slots i _ q⟩⟩, f.lf, f.cf, f.cinj, f.oinj, fun i l hi => ?_⟩
  obtain ⟨a1, a2, ⟨o, g⟩, a4, a5⟩ := f.own i l hi
  exact ⟨a1, a2, ⟨o, hk _ _ (.inr (.inr (.inr ⟨i, l, hi, rfl⟩))) g⟩, a4, a5⟩
theorem StepS.kept (ok : CxOk cx) (w₀ : Wd cx F₀ s₀) (x : StepS cx env F₀ s₀ ρ ad F s ρ' ad') (f : Frm cx ε env F s ρ' ad' m cm) {wr : List Addr} (hw : ∀ b ∈ wr, s₀.heap.get? b = none ∧ ¬ F b ∧ ¬ Mut env ρ' ad' b) {h' : Heap} (k : Nat)
    (hk : ∀ a o, a ∉ wr → s.heap.get? a = some o → h'.get? a = some o) : StepS cx env F₀ s₀ ρ ad F { s with heap := h', toks := k } ρ' ad' ∧ Frm cx ε env F { s with heap := h', toks := k } ρ' ad' m cm := by
  have nf : ∀ a, F a → a ∉ wr := fun a h hm => (hw a hm).2.1 h
  have nm : ∀ a, Mut env ρ' ad' a → a ∉ wr := fun a h hm => (hw a hm).2.2 h
  have nx : ∀ a, cx.X a → a ∉ wr := fun a h hm => by
    obtain ⟨o, e⟩ := w₀.xex a h
    rw [(hw a hm).1] at e; cases e
  have w := x.wd
  refine ⟨⟨x.sub, x.new, fun a o e ax am => ?_, x.os, ⟨fun a o e ax => hk a o (nf a (w.f0 a o e ax)) (w.base a o e ax), ok.xi _ _ _ _ w.xi (fun _ h => h) (fun a o h e => hk a o (h.elim (nf a) (nx a)) e), w.gens, w.f0, fun a h => let ⟨o, e⟩ := w.lt a h; ⟨o, hk a o (nf a h) e⟩, w.nx, fun a h => let ⟨o, e⟩ := w.xex a h; ⟨o, hk a o (nx a h) e⟩⟩, x.mu⟩, f.kept k fun a o h e => hk a o (h.elim (nf a) (nm a)) e⟩
  refine hk a o (fun hm => ?_) (x.keep a o e ax am)
  rw [(hw a hm).1] at e; cases e
end
section
variable {cx : XCx} {ε : Sc}
theorem zgW {x : Str} {i : Nat} {p : Pos} (hx : ε.vars.lookup x = some i) (hf : ε.kinds.lookup x ≠ some .free) : SoundA cx ε (.Name x p) (put1 i) := by
  intro n cf A env F s ρ ad m cm H v d ρ' hv hp Q E hQ
  cases hp
  exact wpAny_assign_Name (zc4 H (Step.refl H.wd) hx hf hv fun s' m' cm' x f => hQ F s' m' cm' x f)
inductive WhI (cx : XCx) (ε : Sc) (env : Env) (F : AP) (s : Shared) (ρ : List Slot) (ad : NAd) (go : Nat → List Slot → Option (List Slot × Out)) (res : Option (List Slot × Out)) (k : Nat) (s' : Shared) : Prop
  | mk (F' : AP) (ρ₁ : List Slot) (ad₁ : NAd) (m₁ cm₁ : SV) (x1 : StepS cx env F s ρ ad F' s' ρ₁ ad₁) (f1 : Frm cx ε env F' s' ρ₁ ad₁ m₁ cm₁) (hg : go k ρ₁ = res)
theorem zbr {c : Expr} {x : X} {bs : List Stmt} {b : S} {pos : Pos} (hx : Sound cx ε c x) (hb : SoundSs cx ε bs b) : SoundS cx ε (.While c bs [] pos) (.while x b) := by
  intro n cf A env F s ρ ad m cm H ρ' o h Q E hQ
  replace h := (zgx cf).symm.trans h
  refine wpAny_While ?_
  refine codeAny_whileLoop (WhI cx ε env F s ρ ad (whileGo (evT cf x) (ex cf b)) (some (ρ', o))) (fun k s' hI => ?_) Mine.wf
    ⟨F, ρ, ad, m, cm, StepS.refl H.wd, H.frm, h⟩
  obtain ⟨F', ρ₁, ad₁, m₁, cm₁, x1, f1, hg⟩ := hI
  have H1 := H.stepS x1 f1
  cases k with
  | zero => cases hg
  | succ k =>
    cases e : evT cf x ρ₁ with
    | none => unfold whileGo at hg; rw [e] at hg; cases hg
    | some c =>
      refine hx.tr n cf A env F' s' ρ₁ ad₁ m₁ cm₁ H1.here c e _ _ fun F2 s2 st => ?_
      cases c with
      | false =>
        replace hg : some (ρ₁, Out.next) = some (ρ', o) := by unfold whileGo at hg; rw [e] at hg; exact hg
        cases hg
        show wpAny _ _ _ _ _ _
        exact wpAny_execs_nil (hQ .next F2 s2 ad₁ m₁ cm₁ (x1.trans (.ofStep st)) (H1.step st).frm .next)
      | true =>
        show wpAny _ _ _ _ _ _
        cases e2 : ex cf b ρ₁ with
        | none => unfold whileGo at hg; rw [e] at hg; simp only [e2] at hg; cases hg
        | some y =>
          obtain ⟨ρ₂, o₂⟩ := y
          refine hb n cf A env F2 s2 ρ₁ ad₁ m₁ cm₁ (H1.step st) ρ₂ o₂ e2 _ _ fun f F3 s3 ad3 m3 cm3 x3 f3 q => ?_
          have x4 := (x1.trans (.ofStep st)).trans x3
          unfold whileGo at hg
          rw [e] at hg
          simp only [e2] at hg
          cases q with
          | next => exact ⟨k, Nat.lt_succ_self k, F3, ρ₂, ad3, m3, cm3, x4, f3, hg⟩
          | cont => exact ⟨k, Nat.lt_succ_self k, F3, ρ₂, ad3, m3, cm3, x4, f3, hg⟩
          | brk => cases hg; exact hQ .next F3 s3 ad3 m3 cm3 x4 f3 .next
          | ret r => cases hg; exact hQ _ F3 s3 ad3 m3 cm3 x4 f3 (.ret r)
theorem zhL {A : Around} {s : Shared} {E : VP} {target : Expr} {I : Addr} {v : Value} {Q : Unit → Shared → Prop} {o : Obj} {T : String} (hg : s.heap.get? I = some o) (hc : o.cls = .type T)
    (hT : ["enumerate", "zip", "dict_itemiterator", "dict_reverseitemiterator", "odict_iterator", "itertools.zip_longest", "itertools.pairwise"].contains T = false) (h : Q () s) :
    wpAny (model cx.prog cx.w) A (letOwnedTupleGo target (.ref I) v) Q E s := by
  have key : ∀ es k p, wpAny (model cx.prog cx.w) A (letOwnedTupleGo (.Tuple es k p) (.ref I) v) Q E s := by
    intro es k p
    cases v with
    | ref a =>
      show wpAny _ _ (load I >>= _) Q E s
      refine wb (wpAny_load hg ?_)
      rw [hc]
      generalize o.data = dd
      cases dd with
      | fields vs =>
        show wpAny _ _ (if (_ && _) = true then _ else _) Q E s
        rw [hT]
        exact wpAny_pure h
      | _ => exact wpAny_pure h
    | _ => exact wpAny_pure h
  cases target with
  | Tuple es k p => exact key es k p
  | List es p => exact key [] 0 p
  | _ => exact wpAny_pure h
set_option genInjectivity false in
structure IterG (cx : XCx) (A : Around) (target : Expr) (F₀ : AP) (s₀ : Shared) (items : List D) (I : Addr) (F : AP) (s : Shared) (wr : List Addr) (Inv : Nat → Heap → Prop) (TR : (Addr → Prop) → Heap → Value → D → Prop) : Prop where
  st : Step cx F₀ s₀ F s
  i0 : Inv 0 s.heap
  new : ∀ b ∈ wr, s₀.heap.get? b = none ∧ ¬ F b
  live : ∀ j h, Inv j h → ∀ b ∈ wr, ∃ o, h.get? b = some o
  frame : ∀ j h h', Inv j h → (∀ b, b ∈ wr ∨ F b → ∀ o, h.get? b = some o → h'.get? b = some o) → Inv j h'
  next : ∀ j (s' : Shared) (F' : AP) (K : VP) (N : Shared → Prop) (E : VP), j < items.length → Inv j s'.heap → (∀ v d, Rep cx.T F s.heap v d → Rep cx.T F' s'.heap v d) → (∀ b ∈ wr, ¬ F' b) →
    (∀ v h' tk d, items[j]? = some d → TR F' h' v d → Inv (j + 1) h' → (∀ b o, b ∉ wr → s'.heap.get? b = some o → h'.get? b = some o) → K v { s' with heap := h', toks := tk }) →
    wpAny (model cx.prog cx.w) A (pyNext (.ref I)) (fun r s₁ => match r with | none => N s₁ | some v => wpAny (model cx.prog cx.w) A (letOwnedTupleGo target (.ref I) v) (fun _ s₂ => K v s₂) E s₁) E s'
  done : ∀ (s' : Shared) (K : VP) (N : Shared → Prop) (E : VP), Inv items.length s'.heap → (∀ h' tk, (∀ b o, b ∉ wr → s'.heap.get? b = some o → h'.get? b = some o) → N { s' with heap := h', toks := tk }) →
    wpAny (model cx.prog cx.w) A (pyNext (.ref I)) (fun r s₁ => match r with | none => N s₁ | some v => wpAny (model cx.prog cx.w) A (letOwnedTupleGo target (.ref I) v) (fun _ s₂ => K v s₂) E s₁) E s'
theorem Iter.gen {A : Around} (hh : A.handled = none) {target : Expr} {F₀ F : AP} {s₀ s : Shared} {items : List D} {I : Addr} {fp wr : List Addr} {P : Nat → Value → Prop} {St : Nat → Heap → Prop} (J : Iter cx A F₀ s₀ items I F s fp wr P St) :
    IterG cx A target F₀ s₀ items I F s wr St (Rep cx.T) := by
  refine ⟨J.st, J.s0, J.new, fun j h hs b hb => ?_, fun j h h' hs hk => (J.W A hh).frame _ _ _ hs fun b hb => hk b (J.deps b hb), fun j s' F' K N E hlt hst hrep hnw hQ => ?_, fun s' K N E hst hQ => ?_⟩
  · obtain ⟨o, _, g, _⟩ := J.ty _ _ hs
    exact J.one b hb ▸ ⟨o, g⟩
  · refine (J.W A hh).item j s' _ _ hlt hst fun v h' tk hP hst' hk => ?_
    obtain ⟨d, hd, hr⟩ := J.item j v hP
    obtain ⟨ob, T, g1, g2, g3⟩ := J.ty _ _ hst'
    exact zhL (s := { s' with heap := h', toks := tk }) g1 g2 g3 (hQ v h' tk d hd ((hrep v d hr).mono (fun _ h => h) fun a o f e => hk a o (fun hm => hnw a hm f) e) hst' hk)
  · exact (J.W A hh).done s' _ _ hst fun h' tk hk => hQ h' tk hk
inductive ForI (cx : XCx) (ε : Sc) (env : Env) (F : AP) (s : Shared) (ρ : List Slot) (ad : NAd) (F0 : AP) (h0 : Heap) (wr : List Addr) (St : Nat → Heap → Prop) (items : List D) (go : List D → List Slot → Option (List Slot × Out)) (res : Option (List Slot × Out)) (k : Nat) (s' : Shared) : Prop
  | mk (j : Nat) (F' : AP) (ρ₁ : List Slot) (ad₁ : NAd) (m₁ cm₁ : SV) (hj : j ≤ items.length) (hk : k = items.length - j) (x1 : StepS cx env F s ρ ad F' s' ρ₁ ad₁) (hrep : ∀ v d, Rep cx.T F0 h0 v d → Rep cx.T F' s'.heap v d) (hF : ∀ a, F0 a → F' a) (f1 : Frm cx ε env F' s' ρ₁ ad₁ m₁ cm₁) (hst : St j s'.heap)
    (hwr : ∀ b ∈ wr, ¬ F' b ∧ ¬ Mut env ρ₁ ad₁ b) (hg : go (items.drop j) ρ₁ = res)
set_option genInjectivity false in
structure ForL (cx : XCx) (env : Env) (F0 : AP) (h0 : Heap) (wr : List Addr) (St : Nat → Heap → Prop) (j : Nat) (F4 : AP) (h4 : Heap) (ρ4 : List Slot) (ad4 : NAd) : Prop where
  p1 : ∀ v d, Rep cx.T F0 h0 v d → Rep cx.T F4 h4 v d
  p2 : ∀ a, F0 a → F4 a
  p3 : St j h4
  p4 : ∀ b ∈ wr, ¬ F4 b ∧ ¬ Mut env ρ4 ad4 b
theorem zj9 {target : Expr} {put : D → List Slot → Option (List Slot)} {it : Expr} {bs : List Stmt} {b : S} {pos : Pos} {TR : (Addr → Prop) → Heap → Value → D → Prop} (hb : SoundSs cx ε bs b)
    (hs : ∀ env x, foldedSetIterable it env x = pure x) {n cf A env F s ρ ad m cm} (H : HereS cx ε n cf A env F s ρ ad m cm) {items : List D}
    (ht : ∀ F s ρ m cm ad, HereS cx ε n cf A env F s ρ ad m cm → ∀ v d ρ', TR F s.heap v d → put d ρ = some ρ' → ∀ (Q : Unit → Shared → Prop) (E : VP), (∀ F' s' m' cm', StepS cx env F s ρ ad F' s' ρ' ad → Frm cx ε env F' s' ρ' ad m' cm' → Q () s') → wpAny (model cx.prog cx.w) A (assign target env v) Q E s)
    (hi : ∀ (Q E : VP), (∀ I F' s' wr St, IterG cx A target F s items I F' s' wr St TR → Q (.ref I) s') → wpAny (model cx.prog cx.w) A (eval it env) (fun v s₁ => wpAny (model cx.prog cx.w) A (pyIter v) Q E s₁) E s)
    {ρ' : List Slot} {o : Out}
    (h : forGo put (ex cf b) items ρ = some (ρ', o)) {Q : Flow → Shared → Prop} {E : VP} (hQ : PostS cx ε env F s ρ ad ρ' o Q) : wpAny (model cx.prog cx.w) A (exec (.For target it bs [] pos) env) Q E s := by
  refine wpAny_For (hi _ _ fun I F0 s0 wr St J => ?_) (hs env)
  have hx0 : ∀ b ∈ wr, ¬ cx.X b := fun b hb h => by
    obtain ⟨o, e⟩ := H.wd.xex b h
    rw [(J.new b hb).1] at e; cases e
  refine codeAny_forLoop_any (ForI cx ε env F s ρ ad F0 s0.heap wr St items (forGo put (ex cf b)) (some (ρ', o))) (fun k s' hI => ?_) items.length
    ⟨0, F0, ρ, ad, m, cm, Nat.zero_le _, rfl, .ofStep J.st, fun _ _ h => h, fun _ h => h, (H.step J.st).frm, J.i0, fun b hb => ⟨(J.new b hb).2, fun hm => ?_⟩, h⟩
  rotate_left
  · obtain ⟨o, e⟩ := H.frm.isSome hm
    rw [(J.new b hb).1] at e; cases e
  obtain ⟨j, F', ρ₁, ad₁, m₁, cm₁, hj, rfl, x1, hrep, hF, f1, hst, hwr, hg⟩ := hI
  have hwr' : ∀ b ∈ wr, s.heap.get? b = none ∧ ¬ F' b ∧ ¬ Mut env ρ₁ ad₁ b := fun b hb => ⟨(J.new b hb).1, (hwr b hb).1, (hwr b hb).2⟩
  rcases Nat.lt_or_ge j items.length with hlt | hge
  · refine J.next j s' F' _ _ _ hlt hst hrep (fun b hb => (hwr b hb).1) fun v h' tk d hd htr hst' hk => ?_
    obtain ⟨x2, f2⟩ := x1.kept H.ok H.wd f1 hwr' tk hk
    have hdrop : items.drop j = d :: items.drop (j + 1) := by
      have h1 : items[j]? = some items[j] := List.getElem?_eq_getElem hlt
      rw [h1] at hd
      cases hd
      exact List.drop_eq_getElem_cons hlt
    rw [hdrop] at hg
    have keepF : ∀ a o, F' a → s'.heap.get? a = some o → h'.get? a = some o := fun a o f e => hk a o (fun hm => (hwr a hm).1 f) e
    have hr2 : ∀ v d, Rep cx.T F0 s0.heap v d → Rep cx.T F' h' v d := fun v d hr => (hrep v d hr).mono (fun _ h => h) keepF
    cases e2 : put d ρ₁ with
    | none => unfold forGo at hg; rw [e2] at hg; cases hg
    | some ρ₂ =>
    have H2 := H.stepS x2 f2
    refine ht F' _ ρ₁ m₁ cm₁ ad₁ H2 v d ρ₂ htr e2 _ _ fun F3 s3 m3 cm3 x3 f3 => ?_
    have H3 := H2.stepS x3 f3
    have later : ∀ {F4 s4 ρ4 ad4 m4 cm4}, StepS cx env F' { s' with heap := h', toks := tk } ρ₁ ad₁ F4 s4 ρ4 ad4 → Frm cx ε env F4 s4 ρ4 ad4 m4 cm4 →
        ForL cx env F0 s0.heap wr St (j + 1) F4 s4.heap ρ4 ad4 := by
      intro F4 s4 ρ4 ad4 m4 cm4 y f4
      refine ⟨fun v d q => y.rep H2 (hr2 v d q), fun a h => y.sub a (hF a h), J.frame _ _ _ hst' fun b hb ob' e => ?_, fun b hb => ?_⟩
      · rcases hb with hb | hb
        · exact y.keep b ob' e (hx0 b hb) (hwr b hb).2
        · exact y.keep b ob' e (H2.wd.nx b (hF b hb)) fun hm => (f2.notF hm).1 (hF b hb)
      · obtain ⟨ob, g1⟩ := J.live _ _ hst' b hb
        refine ⟨fun h => ?_, fun h => ?_⟩
        · rcases y.new b h with q | q | q
          · exact (hwr b hb).1 q
          · rw [show ({ s' with heap := h', toks := tk } : Shared).heap.get? b = some ob from g1] at q; cases q
          · exact (hwr b hb).2 q
        · rcases y.mu b h with q | q
          · exact (hwr b hb).2 q
          · rw [show ({ s' with heap := h', toks := tk } : Shared).heap.get? b = some ob from g1] at q; cases q
    cases e3 : ex cf b ρ₂ with
    | none => unfold forGo at hg; rw [e2] at hg; simp only [e3] at hg; cases hg
    | some pr =>
    obtain ⟨ρ₃, o3⟩ := pr
    replace hg : (match o3 with
      | .next => forGo put (ex cf b) (items.drop (j + 1)) ρ₃
      | .cont => forGo put (ex cf b) (items.drop (j + 1)) ρ₃
      | .brk => some (ρ₃, .next)
      | .ret d => some (ρ₃, .ret d)) = some (ρ', o) := by
      unfold forGo at hg
      rw [e2] at hg
      simp only [e3] at hg
      cases o3 <;> exact hg
    refine hb n cf A env F3 s3 ρ₂ ad₁ m3 cm3 H3 _ o3 e3 _ _ fun f F4 s4 ad4 m4 cm4 x4 f4 q => ?_
    have x24 := x2.trans (x3.trans x4)
    obtain ⟨p1, p2, p3, p4⟩ := later (x3.trans x4) f4
    have again : forGo put (ex cf b) (items.drop (j + 1)) ρ₃ = some (ρ', o) → ∃ m, m < items.length - j ∧ ForI cx ε env F s ρ ad F0 s0.heap wr St items (forGo put (ex cf b)) (some (ρ', o)) m s4 := fun hg =>
      ⟨items.length - (j + 1), Nat.sub_lt_sub_left hlt (Nat.lt_succ_self j), j + 1, F4, ρ₃, ad4, m4, cm4, hlt, rfl, x24, p1, p2, f4, p3, p4, hg⟩
    cases q with
    | next => exact again hg
    | cont => exact again hg
    | brk => cases hg; exact hQ .next F4 s4 ad4 m4 cm4 x24 f4 .next
    | ret r => cases hg; exact hQ _ F4 s4 ad4 m4 cm4 x24 f4 (.ret r)
  · have ej : j = items.length := Nat.le_antisymm (by assumption) (by assumption)
    subst ej
    rw [List.drop_length] at hg
    cases hg
    refine J.done s' _ _ _ hst fun h' tk hk => ?_
    obtain ⟨x2, f2⟩ := x1.kept H.ok H.wd f1 hwr' tk hk
    exact wpAny_execs_nil (hQ .next F' _ ad₁ m₁ cm₁ x2 f2 .next)
theorem for_any {target : Expr} {put : D → List Slot → Option (List Slot)} {it : Expr} {x : X} {bs : List Stmt} {b : S} {pos : Pos} (ht : SoundA cx ε target put) (hi : SoundI cx ε it x) (hb : SoundSs cx ε bs b)
    (hs : ∀ env x, foldedSetIterable it env x = pure x) {n cf A env F s ρ ad m cm} (H : HereS cx ε n cf A env F s ρ ad m cm) {items : List D} (hit : evI cf x ρ = some items) {ρ' : List Slot} {o : Out}
    (h : forGo put (ex cf b) items ρ = some (ρ', o)) {Q : Flow → Shared → Prop} {E : VP} (hQ : PostS cx ε env F s ρ ad ρ' o Q) : wpAny (model cx.prog cx.w) A (exec (.For target it bs [] pos) env) Q E s :=
  zj9 (TR := Rep cx.T) hb hs H (fun F s ρ m cm ad => ht n cf A env F s ρ ad m cm) (fun Q E k => hi n cf A env F s ρ ad m cm H.here items hit Q E fun I F' s' fp wr P St J => k I F' s' wr St (J.gen H.bud.hd)) h hQ
theorem zby {x : Str} {i : Nat} {p : Pos} {it : Expr} {y : X} {bs : List Stmt} {b : S} {pos : Pos} (hx : ε.vars.lookup x = some i) (hf : ε.kinds.lookup x ≠ some .free) (hi : SoundI cx ε it y) (hb : SoundSs cx ε bs b)
    (hs : ∀ env x, foldedSetIterable it env x = pure x) : SoundS cx ε (.For (.Name x p) it bs [] pos) (.forE i y b) := by
  intro n cf A env F s ρ ad m cm H ρ' o h Q E hQ
  replace h := (zhU cf).symm.trans h
  split at h
  · rename_i items e
    exact for_any (zgW hx hf) hi hb hs H e h hQ
  · cases h
end
section
variable {cx : XCx} {ε : Sc}
theorem evI_seq {cf : CfT} {x : X} {ρ : List Slot} {items : List D} (h : evI cf (.seqI x) ρ = some items) : ∃ r d, ev cf x ρ = some [r] ∧ r.fz = some d ∧ itemsOf d = some items := by
  unfold evI at h
  split at h
  · rename_i l e
    cases h
    replace e := (za9 _).symm.trans e
    split at e
    · rename_i r e1
      split at e
      · rename_i d e2
        obtain ⟨l', e3, e4⟩ := Option.map_eq_some_iff.mp e
        cases e4
        exact ⟨r, d, e1, e2, e3⟩
      · cases e
    · cases e
  · cases h
theorem zcE {A : Around} {F₀ F : AP} {s₀ s : Shared} {items : List D} {P : Nat → Value → Prop} {St : Nat → Heap → Prop} {fp : List Addr} {o : Obj} (ok : CxOk cx) (w₀ : Wd cx F₀ s₀) (st : Step cx F₀ s₀ F s)
    (W : ∀ A' : Around, A'.handled = none → Walks cx.prog cx.w A' s.heap.objs.size fp [s.heap.objs.size] items.length P St) (s0 : St 0 (s.heap.push o)) (deps : ∀ b ∈ fp, b = s.heap.objs.size ∨ F b)
    (item : ∀ i v, P i v → ∃ d, items[i]? = some d ∧ Rep cx.T F s.heap v d)
    (ty : ∀ i h, St i h → ∃ o T, h.get? s.heap.objs.size = some o ∧ o.cls = .type T ∧ ["enumerate", "zip", "dict_itemiterator", "dict_reverseitemiterator", "odict_iterator", "itertools.zip_longest", "itertools.pairwise"].contains T = false)
    (hl : items.length ≤ lim) (k : Nat) : Iter cx A F₀ s₀ items s.heap.objs.size F { s with heap := s.heap.push o, toks := k } fp [s.heap.objs.size] P St := by
  have stp := Step.push ok st.wd o k
  have fr := zar s.heap
  refine ⟨st.trans stp, W, s0, fun b hb => ?_, fun b hb => by simpa using hb, fun b hb => (deps b hb).imp (fun e => by simp [e]) id, fun i v h => ?_, ty, hl⟩
  · have e : b = s.heap.objs.size := by simpa using hb
    subst e
    exact ⟨st.fresh (st.wd.newNotX fr) fr, st.wd.newNotF fr⟩
  · obtain ⟨d, e, r⟩ := item i v h
    exact ⟨d, e, stp.rep st.wd r⟩
theorem zln {A : Around} (hh : A.handled = none) {F₀ F : AP} {s₀ s : Shared} (ok : CxOk cx) (w₀ : Wd cx F₀ s₀) (st : Step cx F₀ s₀ F s) {v : Value} {d : D} (q : Rep cx.T F s.heap v d) {items : List D} (hi : itemsOf d = some items)
    {Q E : VP} (hQ : ∀ I F' s' fp wr P St, Iter cx A F₀ s₀ items I F' s' fp wr P St → Q (.ref I) s') : wpAny (model cx.prog cx.w) A (pyIter v) Q E s := by
  cases q with
  | @list a vs n l f g z q =>
    cases hi
    have hne : a ≠ s.heap.objs.size := Nat.ne_of_lt (Heap.lt_size g)
    have el : items.length = vs.toArray.size := by rw [List.size_toArray]; exact q.length.symm
    refine wpAny_pyIter_list (zaB g) (hQ _ F _ [s.heap.objs.size, a] [s.heap.objs.size] (fun i v => vs.toArray[i]? = some v) (fun i h => h.IsListIter s.heap.objs.size a i ∧ h.IsList a vs.toArray) ?_)
    refine zcE (P := fun i v => vs.toArray[i]? = some v) ok w₀ st (fun A' hh => el ▸ Walks.list hh _ a hne vs.toArray) ⟨⟨_, Heap.get?_push_size _ rfl, rfl, rfl⟩, (zaB g).push _⟩ (fun b hb => ?_) (fun i v h => ?_) (fun i h hs => ?_) (by rw [← q.length]; exact z) s.toks
    · simp only [List.mem_cons, List.not_mem_nil, or_false] at hb
      rcases hb with rfl | rfl
      · exact .inl rfl
      · exact .inr f
    · rw [List.getElem?_toArray] at h
      exact q.getV h
    · obtain ⟨⟨o, g, c, _⟩, _⟩ := hs
      exact ⟨o, _, g, c, by decide⟩
  | @tup a vs n l f g z q =>
    cases hi
    have hne : a ≠ s.heap.objs.size := Nat.ne_of_lt (Heap.lt_size g)
    have el : items.length = vs.toArray.size := by rw [List.size_toArray]; exact q.length.symm
    have ht : s.heap.IsTuple a vs.toArray := ⟨_, g, rfl, n, rfl⟩
    refine wpAny_pyIter_tuple ht (hQ _ F _ [s.heap.objs.size, a] [s.heap.objs.size] (fun i v => vs.toArray[i]? = some v) (fun i h => h.IsTupleIter s.heap.objs.size a i ∧ h.IsTuple a vs.toArray) ?_)
    refine zcE (P := fun i v => vs.toArray[i]? = some v) ok w₀ st (fun A' hh => el ▸ Walks.tuple hh _ a hne vs.toArray) ⟨⟨_, Heap.get?_push_size _ rfl, rfl, rfl⟩, ht.push _⟩ (fun b hb => ?_) (fun i v h => ?_) (fun i h hs => ?_) (by rw [← q.length]; exact z) s.toks
    · simp only [List.mem_cons, List.not_mem_nil, or_false] at hb
      rcases hb with rfl | rfl
      · exact .inl rfl
      · exact .inr f
    · rw [List.getElem?_toArray] at h
      exact q.getV h
    · obtain ⟨⟨o, g, c, _⟩, _⟩ := hs
      exact ⟨o, _, g, c, by decide⟩
  | @str l t p z =>
    cases hi
    have el : (l.map fun c => D.str [c]).length = (PySem.Str.mk l.toArray).cps.size := by simp
    have item : ∀ i v, SignAt ⟨l.toArray⟩ i v → ∃ d, (l.map fun c => D.str [c])[i]? = some d ∧ Rep cx.T F s.heap v d := by
      rintro i v ⟨c, u, e, rfl⟩
      rw [show (PySem.Str.mk l.toArray).cps = l.toArray from rfl, List.getElem?_toArray] at e
      refine ⟨.str [c], by rw [List.getElem?_map, e]; rfl, .str (l := [c]) u (fun c' h => ?_) (by simp [lim])⟩
      simp only [List.mem_cons, List.not_mem_nil, or_false] at h
      subst h
      exact p _ (List.mem_of_getElem? e)
    have hz : (l.map fun c => D.str [c]).length ≤ lim := by simpa using z
    have deps : ∀ b ∈ [s.heap.objs.size], b = s.heap.objs.size ∨ F b := fun b hb => .inl (by simpa using hb)
    cases ha : (PySem.Str.mk l.toArray).cps.all (· < 128)
    · refine wpAny_pyIter_wide ha (hQ _ F _ _ _ _ _ (zcE ok w₀ st (fun A' hh => el ▸ Walks.strWide hh _ ⟨l.toArray⟩ t) ⟨_, Heap.get?_push_size _ rfl, rfl, rfl⟩ deps item (fun i h hs => ?_) hz s.toks))
      obtain ⟨o, g, c, _⟩ := hs
      exact ⟨o, _, g, c, by decide⟩
    · refine wpAny_pyIter_ascii ha (hQ _ F _ _ _ _ _ (zcE ok w₀ st (fun A' hh => el ▸ Walks.strAscii hh _ ⟨l.toArray⟩ t) ⟨_, Heap.get?_push_size _ rfl, rfl, rfl⟩ deps item (fun i h hs => ?_) hz s.toks))
      obtain ⟨o, g, c, _⟩ := hs
      exact ⟨o, _, g, c, by decide⟩
  | _ => cases hi
theorem zaO {e : Expr} {x : X} (h : Sound cx ε e x) : SoundI cx ε e (.seqI x) := by
  intro n cf A env F s ρ ad m cm H items hi Q E hQ
  obtain ⟨r, d, e1, e2, e3⟩ := evI_seq hi
  refine h.ev n cf A env F s ρ ad m cm H r e1 _ _ fun v F' s' st q => ?_
  obtain ⟨F'', st', _, q'⟩ := st.fz H.ok H.wd q e2
  exact zln H.bud.hd H.ok H.wd st' q' e3 hQ
theorem ziy {A : Around} (hh : A.handled = none) {F₀ F : AP} {s₀ s : Shared} (ok : CxOk cx) (w₀ : Wd cx F₀ s₀) (st : Step cx F₀ s₀ F s) {r : Addr} {a b c : Int} {t u v : Tok} (hr : IsRange s.heap r a b c t u v) (hs : Builtin.Range.small a b c = true)
    {k : Nat} (hk : Builtin.Range.rangeSize a b c = (k : Int)) (hl : k ≤ lim)
    {Q E : VP} (hQ : ∀ I F' s' fp wr P St, Iter cx A F₀ s₀ ((upTo k a c).map .int) I F' s' fp wr P St → Q (.ref I) s') : wpAny (model cx.prog cx.w) A (pyIter (.ref r)) Q E s := by
  have el : ((upTo k a c).map D.int).length = k := by simp [upTo]
  let P : Nat → Value → Prop := fun i v => i < k ∧ ∃ t, v = .int (a + i * c) t
  have W : ∀ A' : Around, A'.handled = none → Walks cx.prog cx.w A' s.heap.objs.size [s.heap.objs.size] [s.heap.objs.size] k P (fun i h => IsRangeIter h s.heap.objs.size (a + (i : Nat) * c) ((k : Int) - (i : Nat)) c) := fun A' hh => (Walks.range hh _ a c k).bound
  refine wpAny_pyIter_range hr hs (hQ _ F _ _ _ _ _ (zcE (P := P) ok w₀ st (by rw [el]; exact W) ?_ (fun b hb => .inl (by simpa using hb)) ?_ (fun i h hs => ⟨_, _, hs, rfl, by decide⟩) (by rw [el]; exact hl) s.toks))
  · have := Heap.get?_push_size s.heap (o := { cls := .type "range_iterator", data := .fields #[rawInt a, rawInt (Builtin.Range.rangeSize a b c), rawInt c] }) rfl
    show IsRangeIter _ _ _ _ _
    rw [hk] at this
    simpa [IsRangeIter, hk] using this
  · rintro i v ⟨hi, t, rfl⟩
    refine ⟨.int (a + i * c), ?_, .int _ t⟩
    rw [List.getElem?_map]
    unfold upTo
    rw [List.getElem?_map, List.getElem?_range hi]
    simp [Int.mul_comm]
theorem zc7 {i : Int} (h : small i = true) : -1000000000 ≤ i ∧ i ≤ 1000000000 := by
  unfold small at h
  simpa using h
theorem zd0 {z : Int} (h : z ≤ 1000000) : z.toNat ≤ lim := by unfold lim; omega
theorem zhD (a b : Int) : (if a < b then b - a else 0) = ((b - a).toNat : Int) := by split <;> omega
theorem lo62 {i : Int} (h : -1000000000 ≤ i) : -(2 ^ 62) ≤ i := Int.le_trans (by decide) h
theorem hi62 {i : Int} (h : i ≤ 1000000000) : i < 2 ^ 62 := Int.lt_of_le_of_lt h (by decide)
inductive RangeI : List D → List D → Prop
  | one {i : Int} : -1000000000 ≤ i → i ≤ 1000000000 → i ≤ 1000000 → RangeI [.int i] (rangeL 0 i)
  | two {a i : Int} : -1000000000 ≤ a → a ≤ 1000000000 → -1000000000 ≤ i → i ≤ 1000000000 → i - a ≤ 1000000 → RangeI [.int a, .int i] (rangeL a i)
  | down {a i : Int} : -1000000000 ≤ a → a ≤ 1000000000 → -1000000000 ≤ i → i ≤ 1000000000 → a - i ≤ 1000000 → RangeI [.int a, .int i, .int (-1)] (rangeDown a i)
theorem zjk {ds l : List D} (hl : opRange ds = some l) : RangeI ds l := by
  rcases ds with _ | ⟨a0, t⟩
  · cases hl
  cases a0 <;> try (cases hl; done)
  rename_i a
  rcases t with _ | ⟨a1, t⟩
  · rename Int => i
    replace hl : (if (small i && decide (i ≤ 1000000)) = true then some (rangeL 0 i) else none) = some l := hl
    split at hl
    · rename_i hi
      cases hl
      obtain ⟨h1, h2⟩ := Bool.and_eq_true _ _ ▸ hi
      obtain ⟨h3, h4⟩ := zc7 h1
      exact .one h3 h4 (of_decide_eq_true h2)
    · cases hl
  cases a1 <;> try (cases hl; done)
  rename_i i
  rcases t with _ | ⟨a2, t⟩
  · replace hl : (if (small a && small i && decide (i - a ≤ 1000000)) = true then some (rangeL a i) else none) = some l := hl
    split at hl
    · rename_i hi
      cases hl
      obtain ⟨h12, h5⟩ := Bool.and_eq_true _ _ ▸ hi
      obtain ⟨h1, h2⟩ := Bool.and_eq_true _ _ ▸ h12
      obtain ⟨h3, h4⟩ := zc7 h1
      obtain ⟨h6, h7⟩ := zc7 h2
      exact .two h3 h4 h6 h7 (of_decide_eq_true h5)
    · cases hl
  cases a2 <;> try (cases hl; done)
  rename_i c
  rcases t with _ | ⟨a3, t⟩ <;> try (cases hl; done)
  replace hl : (if c = -1 ∧ small a ∧ small i ∧ a - i ≤ 1000000 then some (rangeDown a i) else none) = some l := hl
  split at hl
  · rename_i hi
    cases hl
    obtain ⟨rfl, h1, h2, h5⟩ := hi
    obtain ⟨h3, h4⟩ := zc7 h1
    obtain ⟨h6, h7⟩ := zc7 h2
    exact .down h3 h4 h6 h7 h5
  · cases hl
theorem zeR {A : Around} {F₀ F : AP} {s₀ s : Shared} (ok : CxOk cx) (st : Step cx F₀ s₀ F s) {vs : List Value} {ds : List D} (q : BRepL cx F s.heap vs ds) {l : List D} (hl : opRange ds = some l)
    {Q E : VP} (hQ : ∀ (r : Addr) (a b c : Int) (t u v : Tok) (k : Nat) (s' : Shared), Step cx F₀ s₀ F s' → IsRange s'.heap r a b c t u v → Builtin.Range.small a b c = true → Builtin.Range.rangeSize a b c = (k : Int) → k ≤ lim → l = (upTo k a c).map .int → Q (.ref r) s') :
    wpAny (model cx.prog cx.w) A (call (.type "range") vs) Q E s := by
  cases zjk hl with
  | @one i h3 h4 h2 =>
    obtain ⟨v, rfl, q1⟩ := q.one
    obtain ⟨t, rfl⟩ := q1.int_inv
    exact call_range_1 (hQ _ 0 i 1 _ _ _ (i - 0).toNat _ (st.trans (Step.push ok st.wd ({ cls := .type "range", data := .fields #[.int 0 s.toks, .int i t, .int 1 (s.toks + 1)] } : Obj) (s.toks + 1 + 1))) (IsRange.new s.heap 0 i 1 _ _ _) (small_one (by decide) (by decide) (lo62 h3) (hi62 h4)) (by rw [rangeSize_one, zhD]) (zd0 (by rw [Int.sub_zero]; exact h2)) rfl)
  | @two a i h3 h4 h6 h7 h5 =>
    obtain ⟨v, v', rfl, q1, q2⟩ := q.two
    obtain ⟨t, rfl⟩ := q1.int_inv
    obtain ⟨u, rfl⟩ := q2.int_inv
    exact call_range_2 (hQ _ a i 1 _ _ _ (i - a).toNat _ (st.trans (Step.push ok st.wd ({ cls := .type "range", data := .fields #[.int a t, .int i u, .int 1 s.toks] } : Obj) (s.toks + 1))) (IsRange.new s.heap a i 1 _ _ _) (small_one (lo62 h3) (hi62 h4) (lo62 h6) (hi62 h7)) (by rw [rangeSize_one, zhD]) (zd0 h5) rfl)
  | @down a i h3 h4 h6 h7 h5 =>
    cases q with
    | cons q1 q => cases q with | cons q2 q => cases q with | cons q3 q =>
    cases q
    obtain ⟨t, rfl⟩ := q1.int_inv
    obtain ⟨u, rfl⟩ := q2.int_inv
    obtain ⟨x, rfl⟩ := q3.int_inv
    exact call_range_3 (by decide) (hQ _ a i (-1) _ _ _ (a - i).toNat _ (st.trans (Step.push ok st.wd ({ cls := .type "range", data := .fields #[.int a t, .int i u, .int (-1) x] } : Obj) s.toks)) (IsRange.new s.heap a i (-1) _ _ _) (PySem.W.small_down (lo62 h3) (hi62 h4) (lo62 h6) (hi62 h7)) (PySem.W.rangeSize_downNat a i) (zd0 h5) rfl) (Or.inl (PyProof.noPylong_small (by decide)))
theorem ziM {A : Around} {n : Nat} (hb : BudE n A) {F₀ F : AP} {s₀ s : Shared} (ok : CxOk cx) (w₀ : Wd cx F₀ s₀) (st : Step cx F₀ s₀ F s) {vs : List Value} {ds : List D} (q : BRepL cx F s.heap vs ds) {l : List D} (hl : opRange ds = some l)
    {Q E : VP} (hQ : ∀ I F' s' fp wr P St, Iter cx A F₀ s₀ l I F' s' fp wr P St → Q (.ref I) s') :
    wpAny (model cx.prog cx.w) A (call (.type "range") vs) (fun v s₁ => wpAny (model cx.prog cx.w) A (pyIter v) Q E s₁) E s :=
  zeR ok st q hl fun r a b c t u v k s' st' hr hs hk hl' e => ziy hb.hd ok w₀ st' hr hs hk hl' (e ▸ hQ)
theorem zkl {cf : CfT} {x : X} {ρ : List Slot} {items : List D} (h : evI cf (.rangeI x) ρ = some items) : ∃ rs, ev cf x ρ = some rs ∧ opRange (rs.map R.ds) = some items := by
  unfold evI at h
  split at h
  · rename_i l e
    cases h
    replace e := (zaD _).symm.trans e
    split at e
    · rename_i rs e1
      obtain ⟨l', e3, e4⟩ := Option.map_eq_some_iff.mp e
      cases e4
      exact ⟨rs, e1, e3⟩
    · cases e
  · cases h
theorem zbs {p pos : Pos} {es : List Expr} {x : X} (hk : ε.kinds.lookup ("range" : Str) = some .globalImplicit) (hg : cx.mg ("range" : Str) = none) (h : SoundL cx ε es x false) : SoundI cx ε (.Call (.Name "range" p) es [] pos) (.rangeI x) := by
  intro n cf A env F s ρ ad m cm H items hi Q E hQ
  obtain ⟨rs, e1, e2⟩ := zkl hi
  rw [zav (by intro _ _ _ e; cases e)]
  refine wb (zaK H hk hg (by decide) (v := .type "range") (by rfl) (by decide) ?_)
  refine PyProof.Rows.callWith_type (zaR h) (zaW h H e1 fun vs F' s' st q => ?_)
  exact ziM H.bud H.ok H.wd st q.brep e2 hQ
end
section
variable {cx : XCx} {ε : Sc} {n : Nat} {cf : CfT} {A : Around} {env : Env} {F F₀ F' : AP} {s s₀ s' : Shared} {ρ ρ' : List Slot} {ad ad' : NAd} {m cm m' cm' : SV}
theorem SlotRep.own_inv {h : Heap} {i : Nat} {ov : Option Value} {l : List D} (hd : dSlot i = false) (q : SlotRep cx F h ad i ov (.own l)) : ov = some (.ref (ad i)) ∧ ∃ vs k, h.get? (ad i) = some (lobj vs.toArray k) ∧ vs.length ≤ lim ∧ RepL cx.T F h vs l := by
  cases q with
  | own _ _ g z q => exact ⟨rfl, _, _, g, z, q⟩
  | dic _ _ _ _ _ _ hd' => rw [hd] at hd'; cases hd'
inductive OwnNow (cx : XCx) (F : AP) (h : Heap) (a : Addr) (l : List D) : Prop
  | mk (vs : List Value) (k : Nat) (g : h.get? a = some (lobj vs.toArray k)) (z : vs.length ≤ lim) (q : RepL cx.T F h vs l)
theorem zfp (H : HereS cx ε n cf A env F s ρ ad m cm) {x : Str} {i : Nat} (hx : ε.vars.lookup x = some i) {l : List D} (hi : ownAt ρ i = some l) : OwnNow cx F s.heap (ad i) l := by
  have hs := (zcx hi).1
  rcases H.frm.en.vars x i hx with ⟨_, q⟩ | ⟨_, _, q⟩ <;> rw [hs] at q <;> exact (let ⟨vs, k, g, z, q⟩ := (q.own_inv (zcx hi).2.2).2; ⟨vs, k, g, z, q⟩)
theorem zhJ (H : HereS cx ε n cf A env F s ρ ad m cm) {x : Str} {i : Nat} {p : Pos} (hx : ε.vars.lookup x = some i) (hn : (x == ("__classdict__" : Str)) = false) (hd : (x == ("__debug__" : Str)) = false) {l : List D} (hi : ownAt ρ i = some l)
    {Q E : VP} (h : Q (.ref (ad i)) s) : wpAny (model cx.prog cx.w) A (eval (.Name x p) env) Q E s := by
  have hs := (zcx hi).1
  refine wpAny_Name (zcC H.here hx hn (fun v q => ?_) (by rw [hs]; intro e; cases e)) hd
  rw [hs] at q
  cases (q.own_inv (zcx hi).2.2).1
  exact h
theorem zeW (H₀ : HereS cx ε n cf A env F₀ s₀ ρ ad m cm) (st : Step cx F₀ s₀ F s) {i : Nat} {l : List D} (hs : slotAt ρ i = .own l) {h' : Heap} (sb : Heap.SameBut (ad i) s.heap h') {l' : List D} (is : ∃ o, h'.get? (ad i) = some o)
    (key : (∀ a o, F a → s.heap.get? a = some o → h'.get? a = some o) → ∀ ov, SlotRep cx F s.heap ad i ov (.own l) → SlotRep cx F h' ad i ov (.own l')) (k : Nat) :
    StepS cx env F₀ s₀ ρ ad F { s with heap := h', toks := k } (ρ.set i (.own l')) ad ∧ Frm cx ε env F { s with heap := h', toks := k } (ρ.set i (.own l')) ad m cm := by
  have H := H₀.step st
  have f := H.frm
  have hb : Mut env ρ ad (ad i) := .inr (.inr ⟨i, l, hs, rfl⟩)
  obtain ⟨nf, nx, _, nl, nc⟩ := f.own i l hs
  obtain ⟨w', keep⟩ := zhc H hb sb k
  refine ⟨zd4 H₀ st hb sb k (fun _ _ => .inl hb) (fun _ _ => rfl), Frm.put H hb sb k (f.en.ns.sameBut sb (Ne.symm nl)) (fun n c hc => ?_) (fun _ _ _ _ => ⟨rfl, rfl⟩) (fun y hy => ?_) (fun _ _ => rfl) (.inl rfl) (fun j l2 hj hne e => hne (f.oinj j i _ _ hj hs e)) (fun _ _ => ?_)⟩
  · obtain ⟨o, g, d⟩ := f.en.cells n c hc
    exact ⟨o, (sb.2 c fun e => nc n (e ▸ hc)).trans g, d⟩
  · refine ⟨fun hk => ?_, fun hk => ?_⟩
    · rcases f.en.vars y i hy with ⟨_, q⟩ | ⟨e, _⟩
      · exact key keep _ (hs ▸ q)
      · rw [hk] at e; rcases e with e | e <;> cases e
    · rcases f.en.vars y i hy with ⟨e, _⟩ | ⟨_, _, q⟩
      · exact absurd e hk
      · exact key keep _ (hs ▸ q)
  · exact ⟨nf, nx, is, nl, nc, fun j l2 hj hs2 e => hj (f.oinj j i _ _ hs2 hs e)⟩
theorem zd8 (H₀ : HereS cx ε n cf A env F₀ s₀ ρ ad m cm) (st : Step cx F₀ s₀ F s) {i : Nat} {l : List D} (hi : ownAt ρ i = some l) {h' : Heap} (sb : Heap.SameBut (ad i) s.heap h') {vs' : List Value} {k' : Nat} {l' : List D}
    (hl' : h'.get? (ad i) = some (lobj vs'.toArray k')) (z : vs'.length ≤ lim) (q' : RepL cx.T F s.heap vs' l') (k : Nat) :
    StepS cx env F₀ s₀ ρ ad F { s with heap := h', toks := k } (ρ.set i (.own l')) ad ∧ Frm cx ε env F { s with heap := h', toks := k } (ρ.set i (.own l')) ad m cm := by
  obtain ⟨hs, _, hd⟩ := zcx hi
  obtain ⟨nf, nx, _, _, _⟩ := (H₀.step st).frm.own i l hs
  refine zeW H₀ st hs sb ⟨_, hl'⟩ (fun keep ov q => ?_) k
  rw [(q.own_inv hd).1]
  exact .own nf nx hl' z (q'.mono (fun _ h => h) keep) hd
theorem zhE {h : Heap} {a : Addr} {vs : List Value} {k : Nat} (g : h.get? a = some (lobj vs.toArray k)) (f : Array Value → Array Value) (ws : List Value) (hf : f vs.toArray = ws.toArray) :
    ∃ k', (h.update a (Obj.mapSeq f)).get? a = some (lobj ws.toArray k') := by
  have := IsL.update (n := k) (items := vs.toArray) (show IsL h a vs.toArray k from g) f
  rw [hf] at this
  exact ⟨_, this⟩
theorem exprS {e : Expr} {pos : Pos} {Q : Flow → Shared → Prop} {E : VP} (hi : env.scope.kind = .function) (hs : swapsWith e none pos.line env = pure false)
    (h : wpAny (model cx.prog cx.w) A (eval e env) (fun v s' => (∀ a, v ≠ .ref a) ∧ Q .next s') E s) : wpAny (model cx.prog cx.w) A (exec (.Expr e pos) env) Q E s := by
  refine wpAny_Expr (wpAny_mono h (fun v s' h' => ?_) fun _ _ e => e) ?_ hs
  · cases v <;> first | exact h'.2 | exact absurd rfl (h'.1 _)
  · unfold interactive; rw [hi]; rfl
end
section
variable {cx : XCx} {ε : Sc}
theorem zhZ {cf : CfT} {y : X} {ρ : List Slot} {r : R} (h : ev cf y ρ = some [r]) : ev cf (.cons y .nil) ρ = some [r] := by
  rw [za2, h]; rfl
theorem arg1 {n cf A env F s ρ ad m cm} (H : Here cx ε n cf A env F s ρ ad m cm) {e : Expr} {y : X} {pos : Pos} {f : Value} (h : Sound cx ε e y) (hst : starred e = false) {d : D} (hd : ev1 cf y ρ = some d) {Q : Args → Shared → Prop} {E : VP}
    (hQ : ∀ v F' s', Step cx F s F' s' → Rep cx.T F' s'.heap v d → Q ⟨[v], []⟩ s') : wpAny (model cx.prog cx.w) A (evalArgs f true (backTo pos (starEach [e] env)) []) Q E s := by
  obtain ⟨r, e1, e2⟩ := zhn hd
  refine zaW (SoundL.cons h hst .nil) H (zhZ e1) fun vs F' s' st q => ?_
  obtain ⟨F'', st', _, q'⟩ := zhR H.ok H.wd st (fun _ h => h) q (ds := [d]) (by unfold fzAll; rw [e2]; rfl)
  cases q' with
  | cons a b => cases b; exact hQ _ F'' s' st' a
theorem zfi {x : Str} {i : Nat} {e : Expr} {y : X} {p apos pos pos' : Pos} (hx : ε.vars.lookup x = some i) (hn : (x == ("__classdict__" : Str)) = false) (hd : (x == ("__debug__" : Str)) = false) (hl : (apos.endLine == pos.line) = true)
    (h : Sound cx ε e y) (hst : starred e = false) : SoundS cx ε (.Expr (.Call (.Attribute (.Name x p) "append" apos) [e] [] pos) pos') (.append i y) := by
  intro n cf A env F s ρ ad m cm H ρ' o he Q E hQ
  replace he := (ze1 cf).symm.trans he
  split at he
  · rename_i d l e1 e2
    split at he
    · rename_i hz
      cases he
      refine exprS H.frm.en.kind rfl ?_
      refine zdW rfl hl (by simp) (by rw [zaR (SoundL.cons h hst .nil)]) ?_
      refine zhJ H hx hn hd e2 ?_
      obtain ⟨vs, k, g, _, _⟩ := zfp H hx e2
      refine Calls.getMethod_list_append g rfl rfl ?_
      refine Calls.callWith_builtin (zaR (SoundL.cons h hst .nil)) (arg1 H.here h hst e1 fun v F' s' st q => ?_)
      obtain ⟨vs, k, g, z, qs⟩ := zfp (H.step st) hx e2
      show wpAny _ _ (call (.builtin "list.append") [.ref (ad i), v]) _ _ s'
      have hlen : vs.length = l.length := qs.length
      refine call_meets PySem.F.slot_list_append ⟨_, g, rfl⟩ PySem.F.entry_list_append (PySem.F.args_list_append_2 _ _) (list_append (ad i) vs.toArray k v (by rw [List.size_toArray]; exact zaC z)) ⟨g, ?_⟩
      refine ⟨(fun a e => nomatch e), ?_⟩
      obtain ⟨k', g'⟩ := zhE g (fun x => x.push v) (vs ++ [v]) (by simp)
      obtain ⟨x1, f1⟩ := zd8 H st e2 (Heap.SameBut.update ..) g' (by simp; omega) (qs.append (.cons q .nil)) s'.toks
      exact hQ .next F' _ ad m cm x1 f1 .next
    · cases he
  · cases he
end
section
variable {cx : XCx} {ε : Sc}
theorem zf9 {x y : Str} {i j : Nat} {p p' apos pos : Pos} (hx : ε.vars.lookup x = some i) (hf : ε.kinds.lookup x ≠ some .free) (hy : ε.vars.lookup y = some j) (hn : (y == ("__classdict__" : Str)) = false) (hd : (y == ("__debug__" : Str)) = false) :
    SoundS cx ε (.Assign [.Name x p'] (.Attribute (.Name y p) "append" apos) pos) (.alias i j) := by
  intro n cf A env F s ρ ad m cm H ρ' o he Q E hQ
  replace he := (zgz cf).symm.trans he
  split at he
  · rename_i l e1
    cases he
    refine wpAny_Assign_Name ?_ rfl
    rw [arm_eval_Attribute]
    show wpAny _ _ (do
      let o ← attributeBase (.Name y p) "append" env (eval (.Name y p) env)
      standAt apos.atName
      let r ← holding [o] (getAttr o "append" true)
      letTemporaryGo (.Name y p) o r
      pure r) _ _ _
    rw [zdE rfl]
    refine wb (zhJ H hy hn hd e1 ?_)
    obtain ⟨vs, k, g, z, qs⟩ := zfp H hy e1
    refine wb (wpAny_standAt (wb (wpAny_holding (zeC g ?_))))
    refine wb (wpAny_pure (wpAny_pure ?_))
    have st := Step.push H.ok H.wd (appObj (ad j)) (s.toks + 1)
    have g' : (s.heap.push (appObj (ad j))).get? s.heap.objs.size = some (appObj (ad j)) := Heap.get?_push_size _ rfl
    have st' := st.freeze H.ok H.wd (zar _) g'
    refine zc3 H st' hx hf (sl := .app j) (ad' := ad) (fun _ _ => rfl) (.inl rfl) (fun h' hk => .app (.inr rfl) (hk _ _ (.inl (.inr rfl)) g') rfl) (fun _ e => nomatch e) fun s'' m' cm' x f => hQ .next _ s'' ad m' cm' x f .next
  · cases he
theorem zaz {x y : Str} {i j : Nat} {e : Expr} {z : X} {p pos pos' : Pos} (hx : ε.vars.lookup x = some i) (hy : ε.vars.lookup y = some j) (hn : (x == ("__classdict__" : Str)) = false) (hd : (x == ("__debug__" : Str)) = false)
    (h : Sound cx ε e z) (hst : starred e = false) : SoundS cx ε (.Expr (.Call (.Name x p) [e] [] pos) pos') (.appendVia i j z) := by
  intro n cf A env F s ρ ad m cm H ρ' o he Q E hQ
  replace he := (zdg cf).symm.trans he
  split at he
  · rename_i j' e0
    split at he
    · rename_i ej
      subst ej
      split at he
      · rename_i d l e1 e2
        split at he
        · rename_i hz
          cases he
          have hs : slotAt ρ i = .app j' := by unfold slotAt; simp [List.getD, e0]
          refine exprS H.frm.en.kind rfl ?_
          rw [zav (by intro _ _ _ e; cases e)]
          refine wb (wpAny_Name (zcC H.here hx hn (fun v q => ?_) (by rw [hs]; intro e; cases e)) hd)
          rw [hs] at q
          cases q with
          | @app b o _ fb g eo =>
          subst eo
          refine zeG (l := ad j') (zaR (SoundL.cons h hst .nil)) (arg1 H.here h hst e1 fun v F' s' st q => ?_)
          have g' := st.keep _ _ g (H.wd.nx _ fb)
          refine ⟨g', ?_⟩
          obtain ⟨vs, k, gl, z, qs⟩ := zfp (H.step st) hy e2
          have hlen : vs.length = l.length := qs.length
          refine wpAny_call (ziP g' gl (zhs gl (by rw [List.size_toArray]; exact zaC z) ?_))
          refine ⟨(fun a e => nomatch e), ?_⟩
          obtain ⟨k', gk⟩ := zhE gl (fun x => x.push v) (vs ++ [v]) (by simp)
          obtain ⟨x1, f1⟩ := zd8 H st e2 (Heap.SameBut.update ..) gk (by simp; omega) (qs.append (.cons q .nil)) s'.toks
          exact hQ .next F' _ ad m cm x1 f1 .next
        · cases he
      · cases he
    · cases he
  · cases he
end
inductive Stores (cx : XCx) (ε : Sc) (A : Around) (env : Env) : List (Value → Sem Unit) → List Nat → Prop
  | nil : Stores cx ε A env [] []
  | cons {f : Value → Sem Unit} {fs : List (Value → Sem Unit)} {x : Str} {i : Nat} {is : List Nat} : ε.vars.lookup x = some i → ε.kinds.lookup x ≠ some .free →
      (∀ (v : Value) (Q : Unit → Shared → Prop) (E : VP) (s : Shared), wpAny (model cx.prog cx.w) A (storeName env x v) Q E s → wpAny (model cx.prog cx.w) A (f v) Q E s) → Stores cx ε A env fs is → Stores cx ε A env (f :: fs) (i :: is)
section
variable {cx : XCx} {ε : Sc}
theorem Stores.run {n cf A env} {fs : List (Value → Sem Unit)} {is : List Nat} (S : Stores cx ε A env fs is) : ∀ {F s ρ ad m cm}, HereS cx ε n cf A env F s ρ ad m cm → ∀ {vs : List Value} {ds : List D}, RepL cx.T F s.heap vs ds → ds.length = is.length → ∀ {Q : Unit → Shared → Prop} {E : VP},
    (∀ F' s' m' cm', StepS cx env F s ρ ad F' s' (setAll ρ is ds) ad → Frm cx ε env F' s' (setAll ρ is ds) ad m' cm' → Q () s') → wpAny (model cx.prog cx.w) A (assignInOrder fs vs) Q E s := by
  induction S with
  | nil =>
    intro F s ρ ad m cm H vs ds q hl Q E hQ
    cases ds with
    | nil => cases q; exact wpAny_pure (hQ F s m cm (StepS.refl H.wd) H.frm)
    | cons _ _ => cases hl
  | @cons f fs x i is hx hf hs S ih =>
    intro F s ρ ad m cm H vs ds q hl Q E hQ
    cases ds with
    | nil => cases hl
    | cons d ds =>
      cases q with
      | @cons v vs _ _ a b =>
      show wpAny _ _ (do holding vs (f v); assignInOrder fs vs) Q E s
      refine wb (wpAny_holding (hs v _ _ _ (zc4 H (Step.refl H.wd) hx hf a fun s' m' cm' x1 f1 => ?_)))
      have H1 := H.stepS x1 f1
      exact ih H1 (x1.repL H b) (by simpa using hl) fun F2 s2 m2 cm2 x2 f2 => hQ F2 s2 m2 cm2 (x1.trans x2) f2
theorem zfT {n cf A env F s ρ ad m cm} (H : HereS cx ε n cf A env F s ρ ad m cm) {a : Addr} {vs : List Value} (ht : s.heap.IsTuple a vs.toArray) {ds : List D} (q : RepL cx.T F s.heap vs ds) {k : Nat} (hk : ds.length = k) {Q : List Value → Shared → Prop} {E : VP}
    (hQ : ∀ vs s', Step cx F s F s' → RepL cx.T F s'.heap vs ds → Q vs s') : wpAny (model cx.prog cx.w) A (unpackItems (.ref a) k none) Q E s := by
  have hk' : k = vs.toArray.size := by rw [List.size_toArray, q.length, hk]
  rw [hk']
  refine wpAny_unpackItems_tuple H.bud.hd ht fun h' he => ?_
  have st : Step cx F s F { s with heap := h' } := Step.grown H.ok H.wd s.toks fun b o e => he b o (Nat.ne_of_lt (Heap.lt_size e)) e
  refine hQ _ _ st ?_
  have := st.repL H.wd q
  simpa using this
theorem ziW {n cf A env F s ρ ad m cm} (H : HereS cx ε n cf A env F s ρ ad m cm) {elts : List Expr} {k : Nat} {pos : Pos} {a : Addr} {vs : List Value} (ht : s.heap.IsTuple a vs.toArray) {ds : List D} (q : RepL cx.T F s.heap vs ds) {is : List Nat} (hl : ds.length = is.length)
    (hlen : (assignEach elts env).length = is.length) (hst : (assignEach elts env).findIdx? (·.1) = none) (S : Stores cx ε A env ((assignEach elts env).map (·.2)) is) {Q : Unit → Shared → Prop} {E : VP}
    (hQ : ∀ F' s' m' cm', StepS cx env F s ρ ad F' s' (setAll ρ is ds) ad → Frm cx ε env F' s' (setAll ρ is ds) ad m' cm' → Q () s') : wpAny (model cx.prog cx.w) A (assign (.Tuple elts k pos) env (.ref a)) Q E s := by
  rw [arm_assign_Tuple]
  refine wb (wpAny_standAt ?_)
  unfold unpack
  rw [hlen, hst]
  refine wb (wpAny_holding (zfT H ht q hl fun vs s' st q' => ?_))
  have H1 := H.step st
  exact S.run H1 q' hl fun F2 s2 m2 cm2 x2 f2 => hQ F2 s2 m2 cm2 ((StepS.ofStep st).trans x2) f2
theorem tup_is {T : NAd} {F : AP} {h : Heap} {v : Value} {ds : List D} (q : Rep T F h v (.tup ds)) : ∃ a vs, v = .ref a ∧ h.IsTuple a vs.toArray ∧ RepL T F h vs ds := by
  cases q with
  | tup f g z q => exact ⟨_, _, rfl, ⟨_, g, rfl, _, rfl⟩, q⟩
theorem zh9 {n cf A env F s ρ ad m cm} (H : HereS cx ε n cf A env F s ρ ad m cm) {v : Value} {ds : List D} (q : Rep cx.T F s.heap v (.tup ds)) {k : Nat} (hk : ds.length = k) {Q : List Value → Shared → Prop} {E : VP}
    (hQ : ∀ vs s', Step cx F s F s' → RepL cx.T F s'.heap vs ds → Q vs s') : wpAny (model cx.prog cx.w) A (unpackItems v k none) Q E s := by
  obtain ⟨a, vs, rfl, ht, q'⟩ := tup_is q
  exact zfT H ht q' hk hQ
theorem zeM {A : Around} {env : Env} {x : Str} {p : Pos} : ∀ (v : Value) (Q : Unit → Shared → Prop) (E : VP) (s : Shared), wpAny (model cx.prog cx.w) A (storeName env x v) Q E s → wpAny (model cx.prog cx.w) A (assign (.Name x p) env v) Q E s :=
  fun _ _ _ _ h => wpAny_assign_Name h
theorem zf7 {x y : Str} {i j : Nat} {ts : List Expr} {pos' pos : Pos} {k : Nat} {e : Expr} {z : X} (hx : ε.vars.lookup x = some i) (hy : ε.vars.lookup y = some j) (hfx : ε.kinds.lookup x ≠ some .free) (hfy : ε.kinds.lookup y ≠ some .free) (hij : i ≠ j)
    (h : Sound cx ε e z) (hs : ∀ env, swapsWith e (some (.Tuple ts k pos')) pos.line env = pure false) (hw : ∀ env : Env, env.scope.kind = .function → env.scope.names = ε.kinds → swappedStores [.Tuple ts k pos'] e env = pure (some [x, y])) :
    SoundS cx ε (.Assign [.Tuple ts k pos'] e pos) (.assign2 i j z) := by
  intro n cf A env F s ρ ad m cm H ρ' o he Q E hQ
  replace he := (zeg cf).symm.trans he
  split at he <;> cases he
  rename_i a b e1
  rw [exec_Assign_arm]
  refine wb (wpAny_standAt ?_)
  rw [show swapsWithSole [.Tuple ts k pos'] e pos.line env = pure false from hs env]
  refine wb (wpAny_pure ?_)
  rw [if_neg (by decide)]
  refine wb (zeh H h e1 fun v F1 s1 st q => ?_)
  rw [hw env H.frm.en.kind H.frm.en.names]
  refine wb (wpAny_pure ?_)
  have H1 := H.step st
  show wpAny _ _ (do
    rule "assign.swapped-stores"
    let items ← unpackItems v 2 none
    assignInOrder [bindName env y, bindName env x] items.reverse
    pure Flow.next) _ _ _
  refine wb (wpAny_rule (wb (zh9 H1 q rfl fun vs s2 st2 q2 => ?_)))
  have H2 := H1.step st2
  have q3 := q2.reverse
  have S : Stores cx ε A env [bindName env y, bindName env x] [j, i] := .cons hy hfy (fun _ _ _ _ h => wpAny_bindName h) (.cons hx hfx (fun _ _ _ _ h => wpAny_bindName h) .nil)
  refine wb (S.run H2 q3 rfl fun F3 s3 m3 cm3 x3 f3 => wpAny_pure ?_)
  have e : setAll ρ [j, i] [a, b].reverse = (ρ.set i (.val a)).set j (.val b) := by
    show (ρ.set j (.val b)).set i (.val a) = _
    rw [List.set_comm _ _ hij]
  rw [e] at x3 f3
  exact hQ .next F3 s3 ad m3 cm3 (((StepS.ofStep st).trans (StepS.ofStep st2)).trans x3) f3 .next
theorem zeO {body : List Stmt} {h₀ : ExceptHandler} {hs : List ExceptHandler} {b : S} {pos : Pos} (hb : SoundSs cx ε body b) : SoundS cx ε (.Try body (h₀ :: hs) [] [] pos) (.try_ b) := by
  intro n cf A env F s ρ ad m cm H ρ' o h Q E hQ
  replace h := (zhS cf).symm.trans h
  refine wpAny_Try_except (hb n cf A env F s ρ ad m cm H ρ' o h _ _ fun f F' s' ad' m' cm' x fr q => ?_)
  cases q with
  | next => exact wpAny_execs_nil (hQ _ F' s' ad' m' cm' x fr .next)
  | brk => exact hQ _ F' s' ad' m' cm' x fr .brk
  | cont => exact hQ _ F' s' ad' m' cm' x fr .cont
  | ret r => exact hQ _ F' s' ad' m' cm' x fr (.ret r)
end
theorem zcW {env : Env} : ∀ (names : List (Str × NameKind)) (cs : List (Str × Addr)), (∀ n k, (n, k) ∈ names → k = .free → ∃ c, env.cells.lookup n = some c) → (∀ n c, cs.lookup n = some c → env.cells.lookup n = some c) →
    ∃ cs', (forIn names cs fun (x : Str × NameKind) (r : List (Str × Addr)) => (if (x.2 == NameKind.free) = true then do let c ← cellOf env x.1; pure (ForInStep.yield ((x.1, c) :: r)) else pure (ForInStep.yield r) : Sem (ForInStep (List (Str × Addr))))) = (pure cs' : Sem _) ∧
      (∀ n c, cs'.lookup n = some c → env.cells.lookup n = some c) ∧ (∀ n, (cs.lookup n).isSome ∨ (n, NameKind.free) ∈ names → (cs'.lookup n).isSome)
  | [], cs, _, h2 => ⟨cs, rfl, h2, fun n h => h.elim id fun h => nomatch h⟩
  | (n, k) :: r, cs, h1, h2 => by
    rw [List.forIn_cons]
    by_cases hk : k = .free
    · subst hk
      obtain ⟨c, hc⟩ := h1 n .free List.mem_cons_self rfl
      obtain ⟨cs', e, h3, h4⟩ := zcW r ((n, c) :: cs) (fun n' k' h => h1 n' k' (List.mem_cons_of_mem _ h)) (fun n' c' h => by
        rw [List.lookup_cons] at h
        cases hn : n' == n with
        | true => rw [hn] at h; cases h; rw [beq_iff_eq.mp hn]; exact hc
        | false => rw [hn] at h; exact h2 n' c' h)
      refine ⟨cs', ?_, h3, fun n' h => h4 n' ?_⟩
      · have e1 : cellOf env n = pure c := by unfold cellOf; rw [hc]
        simp only [beq_self_eq_true, if_true, e1, pure_bind]
        exact e
      · rw [List.lookup_cons]
        cases hn : n' == n with
        | true => exact .inl rfl
        | false =>
          rcases h with h | h
          · exact .inl h
          · rcases List.mem_cons.mp h with h | h
            · cases h; simp at hn
            · exact .inr h
    · obtain ⟨cs', e, h3, h4⟩ := zcW r cs (fun n' k' h => h1 n' k' (List.mem_cons_of_mem _ h)) h2
      have hb : (k == NameKind.free) = false := by simpa using hk
      refine ⟨cs', ?_, h3, fun n' h => h4 n' (h.imp id fun h => ?_)⟩
      · simp only [hb, Bool.false_eq_true, if_false, pure_bind]
        exact e
      · rcases List.mem_cons.mp h with h | h
        · cases h; exact absurd rfl hk
        · exact h
theorem ziL {scope : Scope} {env : Env} (h : ∀ n k, (n, k) ∈ scope.names → k = .free → ∃ c, env.cells.lookup n = some c) :
    ∃ cl, closureFor scope env = pure cl ∧ (∀ n c, cl.lookup n = some c → env.cells.lookup n = some c) ∧ (∀ n, (n, NameKind.free) ∈ scope.names → (cl.lookup n).isSome) := by
  obtain ⟨cs', e, h3, h4⟩ := zcW scope.names [] h (fun _ _ h => nomatch h)
  refine ⟨cs', ?_, h3, fun n h => h4 n (.inr h)⟩
  unfold closureFor
  simp only [bind_pure]
  refine Eq.trans ?_ e
  congr 1
noncomputable def relab (ks : List (Str × NameKind)) (names : List (Str × NameKind)) : List (Str × NameKind) :=
  names.map fun (n, k) => if (k == .free && ks.lookup n == some .cell) then (n, .cell) else (n, k)
noncomputable def compSc (ε : Sc) (scope : Scope) (tv : List (Str × Nat)) : Sc :=
  ⟨relab ε.kinds scope.names, tv ++ ε.vars.filter fun y => scope.names.lookup y.1 == some .free, ε.code⟩
theorem zcT {ks : List (Str × NameKind)} {x : Str} : ∀ {names : List (Str × NameKind)}, names.lookup x = some .local → (relab ks names).lookup x = some .local
  | [], h => nomatch h
  | (n, k) :: r, h => by
    unfold relab
    rw [List.map_cons]
    rw [List.lookup_cons] at h
    cases hx : x == n with
    | true =>
      rw [hx] at h
      cases h
      show List.lookup x ((n, NameKind.local) :: _) = _
      rw [List.lookup_cons, hx]
    | false =>
      rw [hx] at h
      by_cases hc : (k == .free && ks.lookup n == some .cell) = true
      · simp only [hc, if_true, List.lookup_cons, hx]; exact zcT h
      · simp only [if_neg hc, List.lookup_cons, hx]; exact zcT h
theorem zdn {ks : List (Str × NameKind)} {x : Str} : ∀ {names : List (Str × NameKind)}, names.lookup x = some .free → (relab ks names).lookup x = some .cell ∨ (relab ks names).lookup x = some .free
  | [], h => nomatch h
  | (n, k) :: r, h => by
    unfold relab
    rw [List.map_cons]
    rw [List.lookup_cons] at h
    cases hx : x == n with
    | true =>
      rw [hx] at h
      cases h
      by_cases hc : (NameKind.free == .free && ks.lookup n == some .cell) = true
      · left; simp only [hc, if_true, List.lookup_cons, hx]
      · right; simp only [if_neg hc, List.lookup_cons, hx]
    | false =>
      rw [hx] at h
      by_cases hc : (k == .free && ks.lookup n == some .cell) = true
      · simp only [hc, if_true, List.lookup_cons, hx]; exact zdn h
      · simp only [if_neg hc, List.lookup_cons, hx]; exact zdn h
theorem za0 {β : Type} {p : Str → Bool} {x : Str} {j : β} : ∀ {l : List (Str × β)}, (l.filter fun y => p y.1).lookup x = some j → l.lookup x = some j ∧ p x = true
  | [], h => nomatch h
  | (n, k) :: r, h => by
    rw [List.filter_cons] at h
    rw [List.lookup_cons]
    cases hx : x == n with
    | true =>
      have e := beq_iff_eq.mp hx
      subst e
      by_cases hp : p x = true
      · simp only [hp, if_true, List.lookup_cons, hx] at h
        exact ⟨h, hp⟩
      · rw [if_neg hp] at h
        exact absurd (za0 h).2 hp
    | false =>
      by_cases hp : p n = true
      · simp only [hp, if_true, List.lookup_cons, hx] at h
        exact za0 h
      · rw [if_neg hp] at h
        exact za0 h
theorem zdd {β : Type} {x : Str} : ∀ {l r : List (Str × β)}, (l ++ r).lookup x = (match l.lookup x with | some b => some b | none => r.lookup x)
  | [], r => rfl
  | (n, k) :: l, r => by
    rw [List.cons_append, List.lookup_cons, List.lookup_cons]
    cases hx : x == n with
    | true => rfl
    | false => exact zdd
noncomputable def updL (m : SV) : List Str → List Value → Str → Option Value
  | x :: xs, v :: vs => updL (fun y => if y = x then some v else m y) xs vs
  | _, _ => m
theorem zhu {x : Str} : ∀ {xs : List Str} {vs : List Value} {m : SV}, x ∉ xs → updL m xs vs x = m x
  | [], _, _, _ => rfl
  | _ :: _, [], _, _ => rfl
  | y :: xs, v :: vs, m, h => by
    show updL _ xs vs x = _
    rw [zhu fun h' => h (List.mem_cons_of_mem _ h')]
    exact if_neg fun (e : x = y) => h (by rw [e]; exact List.mem_cons_self)
theorem zdm {j : Nat} : ∀ {is : List Nat} {ds : List D} {ρ : List Slot}, j ∉ is → slotAt (setAll ρ is ds) j = slotAt ρ j
  | [], _, _, _ => rfl
  | _ :: _, [], _, _ => rfl
  | i :: is, d :: ds, ρ, h => by
    show slotAt (setAll (ρ.set i (.val d)) is ds) j = _
    rw [zdm fun h' => h (List.mem_cons_of_mem _ h'), zaP, if_neg fun (e : j = i) => h (by rw [e]; exact List.mem_cons_self)]
theorem zf2 {cx : XCx} {F : AP} {h : Heap} {ad : NAd} {x : Str} {i : Nat} : ∀ {xs : List Str} {is : List Nat} {vs : List Value} {ds : List D} {m : SV} {ρ : List Slot}, xs.Nodup → is.Nodup → xs.length = is.length → ds.length = is.length → RepL cx.T F h vs ds → (xs.zip is).lookup x = some i →
    SlotRep cx F h ad i (updL m xs vs x) (slotAt (setAll ρ is ds) i) := by
  intro xs
  induction xs with
  | nil => intro is vs ds m ρ _ _ _ _ _ e; cases e
  | cons y xs ih =>
    intro is vs ds m ρ h1 h2 h3 h4 q e
    cases is with
    | nil => cases h3
    | cons j is => cases q with
      | nil => cases h4
      | @cons v vs d ds a b =>
        rw [List.zip_cons_cons, List.lookup_cons] at e
        obtain ⟨n1, h1'⟩ := List.nodup_cons.mp h1
        obtain ⟨n2, h2'⟩ := List.nodup_cons.mp h2
        cases hx : x == y with
        | true =>
          rw [hx] at e
          cases e
          have ey := beq_iff_eq.mp hx
          subst ey
          show SlotRep cx F h ad i (updL _ xs vs x) (slotAt (setAll (ρ.set i (.val d)) is ds) i)
          rw [zhu n1, zdm n2, zaP, if_pos rfl, if_pos rfl]
          split
          · exact .val a
          · exact .unset
        | false =>
          rw [hx] at e
          show SlotRep cx F h ad i (updL _ xs vs x) (slotAt (setAll (ρ.set j (.val d)) is ds) i)
          exact ih h1' h2' (Nat.succ.inj h3) (Nat.succ.inj h4) b e
theorem zdJ {x : Str} {i : Nat} : ∀ {xs : List Str} {is : List Nat}, (xs.zip is).lookup x = some i → x ∈ xs ∧ i ∈ is
  | [], _, h => nomatch h
  | _ :: _, [], h => nomatch h
  | y :: xs, j :: is, h => by
    rw [List.zip_cons_cons, List.lookup_cons] at h
    cases hx : x == y with
    | true => rw [hx] at h; cases h; rw [beq_iff_eq.mp hx]; exact ⟨List.mem_cons_self, List.mem_cons_self⟩
    | false => rw [hx] at h; obtain ⟨a, b⟩ := zdJ h; exact ⟨List.mem_cons_of_mem _ a, List.mem_cons_of_mem _ b⟩
set_option genInjectivity false in
structure CompOK (ε : Sc) (scope : Scope) (xs : List Str) (is : List Nat) : Prop where
  kind : scope.kind = .function
  nocell : ∀ y ∈ scope.names, y.2 ≠ .cell
  names : ∀ y ∈ scope.names, y.2 = .local → scope.names.lookup y.1 = some .local
  xl : ∀ x ∈ xs, scope.names.lookup x = some .local
  free : ∀ y k, (y, k) ∈ scope.names → k = .free → (∃ j, ε.vars.lookup y = some j) ∧ ε.kinds.lookup y ≠ some .local
  apart : ∀ y j, ε.vars.lookup y = some j → j ∉ is
  xn : xs.Nodup
  isn : is.Nodup
  len : xs.length = is.length
theorem zaQ {β : Type} {x : Str} {b : β} : ∀ {l : List (Str × β)}, l.lookup x = some b → (x, b) ∈ l
  | [], h => nomatch h
  | (n, k) :: r, h => by
    rw [List.lookup_cons] at h
    cases hx : x == n with
    | true => rw [hx] at h; cases h; rw [beq_iff_eq.mp hx]; exact List.mem_cons_self
    | false => rw [hx] at h; exact List.mem_cons_of_mem _ (zaQ h)
section
variable {cx : XCx} {ε : Sc} {env : Env} {F : AP} {h : Heap} {ρ : List Slot} {ad : NAd} {m cm : SV}
theorem EnvOK.closure (e : EnvOK cx ε env F h ρ ad m cm) {scope : Scope} {xs : List Str} {is : List Nat} (c : CompOK ε scope xs is) :
    ∃ cl, closureFor scope env = pure cl ∧ (∀ n c, cl.lookup n = some c → env.cells.lookup n = some c) ∧ (∀ n, (n, NameKind.free) ∈ scope.names → (cl.lookup n).isSome) :=
  ziL fun n k hm hk => by
    obtain ⟨⟨j, hj⟩, hl⟩ := c.free n k hm hk
    rcases e.vars n j hj with ⟨h, _⟩ | ⟨_, h, _⟩
    · exact absurd h hl
    · exact h
theorem EnvOK.comp (e : EnvOK cx ε env F h ρ ad m cm) {scope : Scope} {xs : List Str} {is : List Nat} (c : CompOK ε scope xs is) {cl : List (Str × Addr)} (h1 : ∀ n c, cl.lookup n = some c → env.cells.lookup n = some c) (h2 : ∀ n, (n, NameKind.free) ∈ scope.names → (cl.lookup n).isSome)
    {C : Addr} (hC : ¬ cx.X C) {m₁ : SV} {vs : List Value} {ds : List D} (hn : h.Ns C (updL m₁ xs vs)) (hd : ds.length = is.length) (hr : RepL cx.T F h vs ds) :
    EnvOK cx (compSc ε scope (xs.zip is)) (compEnvC scope cl C env) F h (setAll ρ is ds) ad (updL m₁ xs vs) cm := by
  refine ⟨c.kind, ?_, e.glob, e.blt, e.code, hC, fun n a ha => e.cxx n a (h1 n a ha), hn, fun n a ha => e.cells n a (h1 n a ha), fun y j hy => ?_⟩
  · show (relabel scope env).names = relab ε.kinds scope.names
    unfold relabel relab
    have ek : env.scope.kind = .function := e.kind
    have en : ∀ n, env.kindOf n = ε.kinds.lookup n := fun n => by unfold Env.kindOf; rw [e.names]
    simp only [ek, en, beq_self_eq_true, Bool.and_true]
  · have hy' : ((xs.zip is) ++ ε.vars.filter fun y => scope.names.lookup y.1 == some .free).lookup y = some j := hy
    rw [zdd] at hy'
    split at hy'
    · rename_i i ei
      cases hy'
      left
      exact ⟨zcT (c.xl y (zdJ ei).1), zf2 c.xn c.isn c.len hd hr ei⟩
    · obtain ⟨hj, hp⟩ := za0 (p := fun z => scope.names.lookup z == some .free) hy'
      have hf : scope.names.lookup y = some .free := by simpa using hp
      right
      have hm := zaQ hf
      have hl := (c.free y .free hm rfl).2
      rcases e.vars y j hj with ⟨h, _⟩ | ⟨_, _, q⟩
      · exact absurd h hl
      · refine ⟨zdn hf, ?_, ?_⟩
        · exact Option.isSome_iff_exists.mp (h2 y hm)
        · rw [zdm (c.apart y j hj)]
          exact q
end
section
variable {cx : XCx} {ε : Sc} {A : Around} {env : Env} {F F₀ : AP} {s s₀ : Shared}
theorem Step.kept (ok : CxOk cx) (w₀ : Wd cx F₀ s₀) (x : Step cx F₀ s₀ F s) {wr : AP} (hw : ∀ b, wr b → s₀.heap.get? b = none ∧ ¬ F b) {h' : Heap} (k : Nat)
    (hk : ∀ a o, ¬ wr a → s.heap.get? a = some o → h'.get? a = some o) : Step cx F₀ s₀ F { s with heap := h', toks := k } := by
  have nf : ∀ a, F a → ¬ wr a := fun a h hm => (hw a hm).2 h
  have nx : ∀ a, cx.X a → ¬ wr a := fun a h hm => by
    obtain ⟨o, e⟩ := w₀.xex a h
    rw [(hw a hm).1] at e; cases e
  have w := x.wd
  refine ⟨x.sub, x.new, fun a o e ax => hk a o (fun hm => ?_) (x.keep a o e ax), x.os, ⟨fun a o e ax => hk a o (nf a (w.f0 a o e ax)) (w.base a o e ax), ok.xi _ _ _ _ w.xi (fun _ h => h) (fun a o h e => hk a o (h.elim (nf a) (nx a)) e), w.gens, w.f0, fun a h => let ⟨o, e⟩ := w.lt a h; ⟨o, hk a o (nf a h) e⟩, w.nx, fun a h => let ⟨o, e⟩ := w.xex a h; ⟨o, hk a o (nx a h) e⟩⟩⟩
  rw [(hw a hm).1] at e; cases e
noncomputable def Tests (cx : XCx) (ε : Sc) (ifs : List Expr) (c : X) : Prop :=
  ∀ n cf A env F s ρ ad m cm, Here cx ε n cf A env F s ρ ad m cm → ∀ b, evT cf c ρ = some b → ∀ (Q : Bool → Shared → Prop) (E : VP), (∀ F' s', Step cx F s F' s' → Q b s') →
    wpAny (model cx.prog cx.w) A (forIn ifs true fun c r => if r = true then do let ok ← isTrue c env (eval c env); pure (ForInStep.yield ok) else pure (ForInStep.yield r)) Q E s
theorem zce : Tests cx ε [] (.const (.bool true)) := by
  intro n cf A env F s ρ ad m cm H b hb Q E hQ
  have hb' : some true = some b := hb
  cases hb'
  rw [List.forIn_nil]
  exact wpAny_pure (hQ F s (Step.refl H.wd))
theorem zbP {t : Expr} {c : X} (h : Sound cx ε t c) : Tests cx ε [t] c := by
  intro n cf A env F s ρ ad m cm H b hb Q E hQ
  rw [List.forIn_cons]
  simp only [if_true]
  refine wb (wb (h.tr n cf A env F s ρ ad m cm H b hb _ _ fun F' s' st => wpAny_pure ?_))
  show wpAny _ _ (forIn [] b _) _ _ _
  rw [List.forIn_nil]
  exact wpAny_pure (hQ F' s' st)
noncomputable def TargetC (cx : XCx) (tg : Expr) (xs : List Str) (bind : D → Option (List D)) : Prop :=
  ∀ (A : Around) (F : AP) (s : Shared) (cenv : Env) (C : Addr) (m : SV) (v : Value) (d : D) (ds : List D), CxOk cx → Wd cx F s → A.handled = none → cenv.locals = C → (∀ x ∈ xs, cenv.kindOf x = some .local) →
    (cenv.scope.kind == .class || (cenv.scope.kind == .module && cenv.locals != cenv.globals)) = false → s.heap.Ns C m → ¬ F C → Rep cx.T F s.heap v d → bind d = some ds → ∀ (Q : Unit → Shared → Prop) (E : VP),
    (∀ h' tk vs, (∀ a o, a ≠ C → s.heap.get? a = some o → h'.get? a = some o) → h'.Ns C (updL m xs vs) → RepL cx.T F h' vs ds → Q () { s with heap := h', toks := tk }) → wpAny (model cx.prog cx.w) A (assign tg cenv v) Q E s
noncomputable def one1 (d : D) : Option (List D) := some [d]
theorem zax {x : Str} {p : Pos} : TargetC cx (.Name x p) [x] one1 := by
  intro A F s cenv C m v d ds ok w hh hC hk hp hn nf hv hb Q E hQ
  cases hb
  subst hC
  refine wpAny_assign_Name (wpAny_storeName_local (hk x List.mem_cons_self) hn (fun h' hn' sb => ?_) hp)
  have keep : ∀ a o, a ≠ cenv.locals → s.heap.get? a = some o → h'.get? a = some o := fun a o h e => (sb.2 a h).trans e
  exact hQ h' _ [v] keep hn' (.cons (hv.mono (fun _ h => h) fun a o f e => keep a o (fun e => nf (e ▸ f)) e) .nil)
end
theorem zgF {prog : Program} {w : World} {A : Around} {R : Result → Shared → Prop} {s : Shared} {elt target iter : Expr} {ifs : List Expr} {scope : Scope} {pos : Pos} {it acc : Value} {env : Env} (I : Nat → Shared → Prop)
    (turn : ∀ n s, I n s → wpAny (model prog w) A (pyNext it) (fun r s₁ => match r with
      | none => R (.ok .next) s₁
      | some v => wpAny (model prog w) A (letOwnedTupleGo target it v) (fun _ s₁' => wpAny (model prog w) A (assign target env v) (fun _ s₂ =>
          wpAny (model prog w) A (forIn ifs true fun c r => if r = true then do let ok ← isTrue c env (eval c env); pure (ForInStep.yield ok) else pure (ForInStep.yield r)) (fun ok s₃ =>
            if ok = true then wpAny (model prog w) A (eval elt env) (fun x s₄ =>
              wpAny (model prog w) A (call (.builtin "list.append") [acc, x]) (fun _ s₅ => ∃ m, m < n ∧ I m s₅) (notedBy (model prog w) A env fun e s' => R (.error e) s') s₄) (notedBy (model prog w) A env fun e s' => R (.error e) s') s₃
            else ∃ m, m < n ∧ I m s₃) (notedBy (model prog w) A env fun e s' => R (.error e) s') s₂) (notedBy (model prog w) A env fun e s' => R (.error e) s') s₁') (notedBy (model prog w) A env fun e s' => R (.error e) s') s₁) (notedBy (model prog w) A env fun e s' => R (.error e) s') s)
    (n : Nat) (h : I n s) :
    codeAny (model prog w) A (.compLoop (.ListComp elt [⟨target, iter, ifs, 0⟩] scope pos) 0 it acc env) R s := by
  refine codeAny_loop rfl I (fun n s hI => ?_) n h
  show wpAny _ A ((compTurn (.ListComp elt [⟨target, iter, ifs, 0⟩] scope pos) 0 it acc env).onRaise (fun x => do noteFrame x env; theTreesLotGoes x)) _ _ s
  refine wpAny_noted ?_
  rw [compTurn_list]
  refine wb (wpAny_standAt (wb (wpAny_mono (turn n s hI) (fun r s₁ h₁ => ?_) fun _ _ h' => h')))
  cases r with
  | none => exact wpAny_pure h₁
  | some v =>
    refine wb (wpAny_mono h₁ (fun _ s₁' h₁' => ?_) fun _ _ h' => h')
    refine wb (wpAny_mono h₁' (fun _ s₂ h₂ => wb (wpAny_mono h₂ (fun ok s₃ h₃ => ?_) fun _ _ h' => h')) fun _ _ h' => h')
    cases ok with
    | false => exact wpAny_pure ⟨rfl, h₃⟩
    | true =>
      exact wb (wb (wpAny_mono h₃ (fun x s₄ h₄ => wb (wpAny_mono h₄ (fun _ s₅ h₅ => wpAny_pure (wpAny_pure ⟨rfl, h₅⟩)) fun _ _ h' => h')) fun _ _ h' => h'))
noncomputable def turnC (cf : CfT) (is : List Nat) (bind : D → Option (List D)) (c e : X) (ρ : List Slot) (d : D) : Option (Option D) :=
  match bind d with
  | some ds => turnD (ev cf c (setAll ρ is ds)) (ev cf e (setAll ρ is ds))
  | none => none
set_option genInjectivity false in
structure AccK (cx : XCx) (e elt tg iter : Expr) (ifs : List Expr) (mk : Sem Value) (aid : String) (P : Obj → List Value → List D → Prop) (good : List D → Prop) : Prop where
  cl : clausesOf e = [⟨tg, iter, ifs, 0⟩]
  start : ∀ {A : Around} {R : Result → Shared → Prop} {s : Shared} {it acc : Value} {env : Env}, codeAny (model cx.prog cx.w) A (.compLoop e 0 it acc env) R s →
    wpAny (model cx.prog cx.w) A (pyIter it) (fun it' s' => codeAny (model cx.prog cx.w) A (.compLoop e 0 it' acc env) R s') (notedBy (model cx.prog cx.w) A env fun x s' => R (.error x) s') s → codeAny (model cx.prog cx.w) A (.compStart e 0 it acc env) R s
  loop : ∀ {A : Around} {R : Result → Shared → Prop} {s : Shared} {it acc : Value} {env : Env} (I : Nat → Shared → Prop)
    (turn : ∀ n s, I n s → wpAny (model cx.prog cx.w) A (pyNext it) (fun r s₁ => match r with
      | none => R (.ok .next) s₁
      | some v => wpAny (model cx.prog cx.w) A (letOwnedTupleGo tg it v) (fun _ s₁' => wpAny (model cx.prog cx.w) A (assign tg env v) (fun _ s₂ =>
          wpAny (model cx.prog cx.w) A (forIn ifs true fun c r => if r = true then do let ok ← isTrue c env (eval c env); pure (ForInStep.yield ok) else pure (ForInStep.yield r)) (fun ok s₃ =>
            if ok = true then wpAny (model cx.prog cx.w) A (eval elt env) (fun x s₄ =>
              wpAny (model cx.prog cx.w) A (call (.builtin aid) [acc, x]) (fun _ s₅ => ∃ m, m < n ∧ I m s₅) (notedBy (model cx.prog cx.w) A env fun e s' => R (.error e) s') s₄) (notedBy (model cx.prog cx.w) A env fun e s' => R (.error e) s') s₃
            else ∃ m, m < n ∧ I m s₃) (notedBy (model cx.prog cx.w) A env fun e s' => R (.error e) s') s₂) (notedBy (model cx.prog cx.w) A env fun e s' => R (.error e) s') s₁') (notedBy (model cx.prog cx.w) A env fun e s' => R (.error e) s') s₁) (notedBy (model cx.prog cx.w) A env fun e s' => R (.error e) s') s)
    (n : Nat) (h : I n s), codeAny (model cx.prog cx.w) A (.compLoop e 0 it acc env) R s
  new : ∀ {A : Around} {Q E : VP} {s : Shared}, (∀ o : Obj, P o [] [] → o.isFreed = false → Q (.ref s.heap.objs.size) { s with heap := s.heap.push o }) → wpAny (model cx.prog cx.w) A mk Q E s
  pre : ∀ {a b : List D}, good (a ++ b) → good a
  add : ∀ {A : Around} {Q E : VP} {s : Shared} {F : AP} {Da : Addr} {o : Obj} {ys : List Value} {ds : List D} {v : Value} {y : D}, s.heap.get? Da = some o → P o ys ds → ys.length ≤ lim → Rep cx.T F s.heap v y → good (ds ++ [y]) →
    (∀ h' tk o', Heap.SameBut Da s.heap h' → h'.get? Da = some o' → P o' (ys ++ [v]) (ds ++ [y]) → Q .none { s with heap := h', toks := tk }) → wpAny (model cx.prog cx.w) A (call (.builtin aid) [.ref Da, v]) Q E s
inductive CoreI (P : Obj → List Value → List D → Prop) (cx : XCx) (F : AP) (s : Shared) (F1 : AP) (h1 : Heap) (wr : List Addr) (Da C : Addr) (St : Nat → Heap → Prop) (items l : List D) (go : List D → Option (List D)) (k : Nat) (s' : Shared) : Prop
  | mk (j : Nat) (F' : AP) (ys : List Value) (ds : List D) (kk : Obj) (m' : SV) (hj : j ≤ items.length) (hk : k = items.length - j) (st : Step cx F s F' s') (hrep : ∀ v d, Rep cx.T F1 h1 v d → Rep cx.T F' s'.heap v d) (hF : ∀ a, F1 a → F' a) (hst : St j s'.heap)
    (hwr : ∀ b ∈ wr, ¬ F' b) (hnD : ¬ F' Da) (hnC : ¬ F' C) (hD : s'.heap.get? Da = some kk) (hP : P kk ys ds) (hys : RepL cx.T F' s'.heap ys ds) (hyl : ys.length ≤ j) (hns : s'.heap.Ns C m') (rest : List D) (hgo : go (items.drop j) = some rest) (hrest : l = ds ++ rest)
set_option genInjectivity false in
structure CoreL (cx : XCx) (F1 : AP) (h1 : Heap) (wr : List Addr) (Da C : Addr) (St : Nat → Heap → Prop) (j : Nat) (ys : List Value) (ds : List D) (kk : Obj) (m' : SV) (F4 : AP) (h4 : Heap) : Prop where
  p1 : ∀ v d, Rep cx.T F1 h1 v d → Rep cx.T F4 h4 v d
  p2 : ∀ a, F1 a → F4 a
  p3 : St j h4
  p4 : ∀ b ∈ wr, ¬ F4 b
  p5 : ¬ F4 Da
  p6 : ¬ F4 C
  p7 : h4.get? Da = some kk
  p8 : RepL cx.T F4 h4 ys ds
  p9 : h4.Ns C m'
inductive CoreT (cf : CfT) (c e : X) (ρ : List Slot) (go : Option (List D)) (rest : List D) : Prop
  | skip : truthR (ev cf c ρ) = some false → go = some rest → CoreT cf c e ρ go rest
  | take (r : R) (y : D) (ys : List D) : truthR (ev cf c ρ) = some true → ev cf e ρ = some [r] → r.fz = some y → go = some ys → rest = y :: ys → CoreT cf c e ρ go rest
theorem ziJ {f : D → Option (Option D)} {d : D} {r rest : List D} (h : compGo f (d :: r) = some rest) : (f d = some none ∧ compGo f r = some rest) ∨ ∃ y ys, f d = some (some y) ∧ compGo f r = some ys ∧ rest = y :: ys := by
  unfold compGo at h
  cases e : f d with
  | none => rw [e] at h; cases h
  | some o =>
    rw [e] at h
    cases o with
    | none => exact .inl ⟨rfl, h⟩
    | some y =>
      cases e2 : compGo f r with
      | none => simp only [e2] at h; cases h
      | some ys => simp only [e2] at h; cases h; exact .inr ⟨y, ys, rfl, rfl, rfl⟩
theorem zfY {c e : Option (List R)} {o : Option D} (h : turnD c e = some o) : (truthR c = some false ∧ o = none) ∨ ∃ r y, truthR c = some true ∧ e = some [r] ∧ r.fz = some y ∧ o = some y := by
  unfold turnD at h
  cases t : truthR c with
  | none => rw [t] at h; cases h
  | some b =>
    rw [t] at h
    cases b with
    | false => cases h; exact .inl ⟨rfl, rfl⟩
    | true =>
      rcases e with _ | _ | ⟨r, _ | ⟨_, _⟩⟩ <;> try (cases h; done)
      obtain ⟨y, e1, e2⟩ := Option.map_eq_some_iff.mp (show r.fz.map some = some o from h)
      exact .inr ⟨r, y, rfl, rfl, e1, e2.symm⟩
theorem zks {cf : CfT} {is : List Nat} {bind : D → Option (List D)} {c e : X} {ρ : List Slot} {d : D} {r rest : List D} (h : compGo (turnC cf is bind c e ρ) (d :: r) = some rest) :
    ∃ dv, bind d = some dv ∧ CoreT cf c e (setAll ρ is dv) (compGo (turnC cf is bind c e ρ) r) rest := by
  have key : ∀ {o}, turnC cf is bind c e ρ d = some o → ∃ dv, bind d = some dv ∧ turnD (ev cf c (setAll ρ is dv)) (ev cf e (setAll ρ is dv)) = some o := by
    intro o h
    cases q : bind d with
    | none => simp only [turnC, q] at h; cases h
    | some dv => simp only [turnC, q] at h; exact ⟨dv, rfl, h⟩
  rcases ziJ h with ⟨h1, h2⟩ | ⟨y, ys, h1, h2, h3⟩
  · obtain ⟨dv, e1, e2⟩ := key h1
    refine ⟨dv, e1, ?_⟩
    rcases zfY e2 with ⟨t, _⟩ | ⟨_, _, _, _, _, q⟩
    · exact .skip t h2
    · cases q
  · obtain ⟨dv, e1, e2⟩ := key h1
    refine ⟨dv, e1, ?_⟩
    rcases zfY e2 with ⟨_, q⟩ | ⟨r', y', t, a, b, q⟩
    · cases q
    · cases q; exact .take r' y ys t a b h2 h3
section
variable {cx : XCx} {ε : Sc}
theorem ze3 {ex elt iter tg : Expr} {ifs : List Expr} {mk : Sem Value} {aid : String} {PA : Obj → List Value → List D → Prop} {good : List D → Prop} (K : AccK cx ex elt tg iter ifs mk aid PA good) {scope : Scope} {cpos : Pos} {xs : List Str} {is : List Nat} {bind : D → Option (List D)} {c e it : X}
    (hT : TargetC cx tg xs bind) (hb : ∀ d ds, bind d = some ds → ds.length = is.length) (hi : SoundI cx ε iter it) (ok : CompOK ε scope xs is) (hc : Tests cx (compSc ε scope (xs.zip is)) ifs c) (he : Sound cx (compSc ε scope (xs.zip is)) elt e)
    (hs : ∀ env x, foldedSetIterable iter env x = pure x)
    {n cf A env F s ρ ad m cm} (H : Here cx ε n cf A env F s ρ ad m cm) {items l : List D} (hit : evI cf it ρ = some items) (hl : compGo (turnC cf is bind c e ρ) items = some l)
    (hgood : good l) {use : Option (Value → Sem Unit)} {Q E : VP}
    (hRR : ∀ Da C F' s' m' ob ys, Step cx F s F' s' → s.heap.get? Da = none → ¬ F' Da → ¬ cx.X Da → s'.heap.get? Da = some ob → PA ob ys l → RepL cx.T F' s'.heap ys l → ys.length ≤ lim → s'.heap.Ns C m' → s.heap.get? C = none → ¬ F' C → C ≠ Da → compPost (model cx.prog cx.w) A E use Q (.ref Da) C (.ok .next) s') :
    wpAny (model cx.prog cx.w) A (comprehension ex scope env cpos mk false (eval iter env) use) Q E s := by
  obtain ⟨cl, hclos, h1, h2⟩ := H.env.closure ok
  refine wpAny_comprehension_free K.cl (hs env) hclos ok.kind ok.names (hi n cf A env F s ρ ad m cm H items hit _ _ fun I F1 s1 fp wr P St J => ?_)
  refine K.new fun o0 hP0 hfr => ?_
  refine (wpAny_newFunctionEnv ok.nocell (by intro y hy; simp at hy) (fun h₁ hns₁ hsb₁ => ?_) ok.kind)
  dsimp only at hns₁ hsb₁ ⊢
  generalize hH2 : s1.heap.push o0 = H2 at hns₁ hsb₁ ⊢
  generalize hD : s1.heap.objs.size = Da
  generalize hCe : H2.objs.size = C at hns₁ hsb₁
  have hCD : C = Da + 1 := by rw [← hCe, ← hD, ← hH2, Heap.size_push]
  have hDC : C ≠ Da := by rw [hCD]; exact Nat.succ_ne_self Da
  have fr : ∀ a, Da ≤ a → s1.heap.get? a = none := fun a ha => by
    cases e : s1.heap.get? a with
    | none => rfl
    | some o' => exact absurd (hD ▸ Heap.lt_size e) (Nat.not_lt.mpr ha)
  have lt1 : ∀ b o, s1.heap.get? b = some o → b ≠ C ∧ b ≠ Da := fun b o e => ⟨Nat.ne_of_lt (by rw [hCD]; exact Nat.lt_succ_of_lt (hD ▸ Heap.lt_size e)), Nat.ne_of_lt (hD ▸ Heap.lt_size e)⟩
  have old : ∀ b o, s1.heap.get? b = some o → h₁.get? b = some o := fun b o e => hsb₁.extBut b o (lt1 b o e).1 (Heap.get?_push_of_some _ (hH2 ▸ Heap.get?_push_of_some _ e))
  have hacc : h₁.get? Da = some o0 := hsb₁.extBut _ _ hDC.symm (Heap.get?_push_of_some _ (by rw [← hH2, ← hD]; exact Heap.get?_push_size _ hfr))
  have frD := fr Da (Nat.le_refl _)
  have frC := fr C (by rw [hCD]; exact Nat.le_succ Da)
  have xD : ¬ cx.X Da := J.st.wd.newNotX frD
  have xC : ¬ cx.X C := J.st.wd.newNotX frC
  have frD0 : s.heap.get? Da = none := J.st.fresh xD frD
  have frC0 : s.heap.get? C = none := J.st.fresh xC frC
  have st1 : Step cx F s F1 { s1 with heap := h₁, toks := s1.toks + ([] : List (Str × Value)).length } := J.st.trans (Step.grown H.ok J.st.wd _ old)
  have loop : ∀ s₃ : Shared, s₃ = { s1 with heap := h₁, toks := s1.toks + ([] : List (Str × Value)).length } →
      codeAny (model cx.prog cx.w) A (.compLoop ex 0 (.ref I) (.ref Da) (compEnvC scope cl C env)) (compPost (model cx.prog cx.w) A E use Q (.ref Da) C) s₃ := by
    rintro s₃ rfl
    refine K.loop (CoreI PA cx F s F1 s1.heap wr Da C St items l (compGo (turnC cf is bind c e ρ))) (fun k s' hI => ?_) items.length
      ⟨0, F1, [], [], o0, _, Nat.zero_le _, rfl, st1, fun v d r => r.mono (fun _ h => h) fun a o _ e => old a o e, fun _ h => h, (J.W A H.bud.hd).frame _ _ _ J.s0 fun b _ o e => old b o e, fun b hb => (J.new b hb).2, J.st.wd.newNotF frD, J.st.wd.newNotF frC, hacc, hP0, .nil, Nat.le_refl _, hns₁, l, hl, rfl⟩
    obtain ⟨j, F', ys, ds, kk, m', hj, rfl, st', hrep, hF, hst, hwr, hnD, hnC, hD', hPo, hys, hyl, hns', rest, hgo, hrest⟩ := hI
    obtain ⟨o0, T0, gI, _, _⟩ := J.ty 0 _ J.s0
    have hwI : ∀ b ∈ wr, b ≠ C ∧ b ≠ Da := fun b hb => by rw [J.one b hb]; exact lt1 I _ gI
    have dC : C ∉ wr := fun h => (hwI C h).1 rfl
    have dD : Da ∉ wr := fun h => (hwI Da h).2 rfl
    have hwn : ∀ b, b ∈ wr → s.heap.get? b = none ∧ ¬ F' b := fun b hb => ⟨(J.new b hb).1, hwr b hb⟩
    have xwr : ∀ b ∈ wr, ¬ cx.X b := fun b hb h => by
      obtain ⟨o, e⟩ := H.wd.xex b h
      rw [(J.new b hb).1] at e; cases e
    rcases Nat.lt_or_ge j items.length with hlt | hge
    · refine (J.W A H.bud.hd).item j s' _ _ hlt hst fun v h' tk hP hst' hk => ?_
      have st2 := st'.kept H.ok H.wd (wr := (· ∈ wr)) hwn tk hk
      obtain ⟨d, hd, hr⟩ := J.item j v hP
      have hdrop : items.drop j = d :: items.drop (j + 1) := by
        have h1 : items[j]? = some items[j] := List.getElem?_eq_getElem hlt
        rw [h1] at hd
        cases hd
        exact List.drop_eq_getElem_cons hlt
      rw [hdrop] at hgo
      obtain ⟨dv, hdv, hturn⟩ := zks hgo
      obtain ⟨ob, T, g1, g2, g3⟩ := J.ty _ _ hst'
      have keepF : ∀ a o, F' a → s'.heap.get? a = some o → h'.get? a = some o := fun a o f e => hk a o (fun hm => hwr a hm f) e
      have hr2 : ∀ v d, Rep cx.T F1 s1.heap v d → Rep cx.T F' h' v d := fun v d hr => (hrep v d hr).mono (fun _ h => h) keepF
      refine zhL (s := { s' with heap := h', toks := tk }) g1 g2 g3 ?_
      have hnC' : h'.Ns C m' := hns'.at' fun o e => hk C o dC e
      refine hT A F' { s' with heap := h', toks := tk } (compEnvC scope cl C env) C m' v d dv H.ok st2.wd H.bud.hd rfl (fun x hx => lookup_relabel_local (ok.xl x hx)) (by simp [compEnvC, relabel, ok.kind]) hnC' hnC (hr2 v d hr) hdv _ _ fun h3 tk3 vs3 hk3 hns3 hr3 => ?_
      have st3 : Step cx F s F' { s' with heap := h3, toks := tk3 } := st2.kept H.ok H.wd (wr := (· = C)) (fun b hb => by subst hb; exact ⟨frC0, hnC⟩) tk3 hk3
      have keep3 : ∀ a o, F' a → s'.heap.get? a = some o → h3.get? a = some o := fun a o f e => hk3 a o (fun e => hnC (e ▸ f)) (keepF a o f e)
      have H3 : Here cx (compSc ε scope (xs.zip is)) n cf A (compEnvC scope cl C env) F' { s' with heap := h3, toks := tk3 } (setAll ρ is dv) ad (updL m' xs vs3) cm :=
        ⟨H.ok, H.calls, H.bud, st3.wd, (H.step st3).env.comp ok h1 h2 xC hns3 (hb d dv hdv) hr3⟩
      have hst3 : St (j + 1) h3 := (J.W A H.bud.hd).frame _ _ _ hst' fun b hb o e => hk3 b o (by
        rcases J.deps b hb with h | h
        · exact (hwI b h).1
        · exact fun e => hnC (e ▸ hF b h)) e
      have hD3 : h3.get? Da = some kk := hk3 Da _ hDC.symm (hk Da _ dD hD')
      have later : ∀ {F4 s4}, Step cx F' { s' with heap := h3, toks := tk3 } F4 s4 → CoreL cx F1 s1.heap wr Da C St (j + 1) ys ds kk (updL m' xs vs3) F4 s4.heap := by
        intro F4 s4 y
        have isC : ∃ o, h3.get? C = some o := by obtain ⟨o, _, _, e, _⟩ := hns3; exact ⟨o, e⟩
        obtain ⟨oC, eC⟩ := isC
        obtain ⟨ob3, T3, g13, _, _⟩ := J.ty _ _ hst3
        refine ⟨fun v d q => y.rep H3.wd ((hr2 v d q).mono (fun _ h => h) fun a o f e => hk3 a o (fun e => hnC (e ▸ f)) e), fun a h => y.sub a (hF a h), (J.W A H.bud.hd).frame _ _ _ hst3 fun b hb o e => ?_, fun b hb => ?_, y.notF hnD hD3, y.notF hnC eC, y.keep _ _ hD3 xD, y.repL H3.wd (hys.mono (fun _ h => h) keep3), hns3.at' fun o e => y.keep _ o e xC⟩
        · rcases J.deps b hb with h | h
          · exact y.keep b o e (xwr b h)
          · exact y.keep b o e (H3.wd.nx b (hF b h))
        · exact y.notF (hwr b hb) (by rw [J.one b hb]; exact g13)
      cases hturn with
      | skip htr hgo' =>
        refine hc n cf A _ F' _ _ ad _ cm H3 false htr _ _ fun F4 s4 st4 => ?_
        obtain ⟨p1, p2, p3, p4, p5, p6, p7, p8, p9⟩ := later st4
        rw [if_neg (by decide)]
        exact ⟨items.length - (j + 1), Nat.sub_lt_sub_left hlt (Nat.lt_succ_self j), j + 1, F4, ys, ds, kk, _, hlt, rfl, st3.trans st4, p1, p2, p3, p4, p5, p6, p7, hPo, p8, by omega, p9, rest, hgo', hrest⟩
      | take r y ys' htr e1 e2 e4 e5 =>
          refine hc n cf A _ F' _ _ ad _ cm H3 true htr _ _ fun F4 s4 st4 => ?_
          rw [if_pos rfl]
          have H4 := H3.step st4
          refine he.ev n cf A _ F4 s4 _ ad _ cm H4 r e1 _ _ fun v5 F5 s5 st5 q5 => ?_
          obtain ⟨F6, st6, _, r6⟩ := st5.fz H.ok st4.wd q5 e2
          obtain ⟨p1, p2, p3, p4, p5, p6, p7, p8, p9⟩ := later (st4.trans st6)
          have hlen : ys.length < lim := by have := J.lim; omega
          have hgd : good (ds ++ [y]) := K.pre (b := ys') (by rw [List.append_assoc]; have := hrest; rw [e5] at this; exact this ▸ hgood)
          refine K.add p7 hPo (Nat.le_of_lt hlen) r6 hgd fun h7 tk7 k7 sb7 hl7 hP7 => ?_
          have st7 : Step cx F s F6 { s5 with heap := h7, toks := tk7 } := (st3.trans (st4.trans st6)).kept H.ok H.wd (wr := (· = Da)) (fun b hb => by subst hb; exact ⟨frD0, p5⟩) tk7 fun a o h e => (sb7.2 a h).trans e
          have keep7 : ∀ a o, F6 a → s5.heap.get? a = some o → h7.get? a = some o := fun a o f e => (sb7.2 a fun e => p5 (e ▸ f)).trans e
          refine ⟨items.length - (j + 1), Nat.sub_lt_sub_left hlt (Nat.lt_succ_self j), j + 1, F6, ys ++ [v5], ds ++ [y], k7, _, hlt, rfl, st7, fun v d q => (p1 v d q).mono (fun _ h => h) keep7, p2, (J.W A H.bud.hd).frame _ _ _ p3 fun b hb o e => (sb7.2 b ?_).trans e, p4, p5, p6, hl7, hP7, (p8.append (.cons r6 .nil)).mono (fun _ h => h) keep7, by rw [List.length_append]; simp; omega, p9.sameBut sb7 hDC, ys', e4, by rw [hrest, e5]; simp⟩
          rcases J.deps b hb with h | h
          · exact (hwI b h).2
          · exact fun e => p5 (e ▸ p2 b h)
    · have ej : j = items.length := Nat.le_antisymm (by assumption) (by assumption)
      subst ej
      rw [List.drop_length] at hgo
      cases hgo
      refine (J.W A H.bud.hd).done s' _ _ hst fun h' tk hk => ?_
      have st2 := st'.kept H.ok H.wd (wr := (· ∈ wr)) hwn tk hk
      have keepF : ∀ a o, F' a → s'.heap.get? a = some o → h'.get? a = some o := fun a o f e => hk a o (fun hm => hwr a hm f) e
      rw [List.append_nil] at hrest
      subst hrest
      exact hRR Da C F' _ m' kk ys st2 frD0 hnD xD (hk Da _ dD hD') hPo (hys.mono (fun _ h => h) keepF) (by have := J.lim; omega) (hns'.at' fun o e => hk C o dC e) frC0 hnC hDC
  exact K.start (loop _ rfl) ((J.W A H.bud.hd).self 0 _ _ _ ((J.W A H.bud.hd).frame _ _ _ J.s0 fun b _ o e => old b o e) (loop _ rfl))
noncomputable def LsP (o : Obj) (ys : List Value) (_ : List D) : Prop := ∃ k, o = lobj ys.toArray k
theorem accList {elt tg iter : Expr} {ifs : List Expr} {scope : Scope} {pos : Pos} : AccK cx (.ListComp elt [⟨tg, iter, ifs, 0⟩] scope pos) elt tg iter ifs (newList []) "list.append" LsP (fun _ => True) where
  cl := rfl
  start := fun h0 h => codeAny_compStart_list h0 h
  loop := fun I turn n h => zgF I turn n h
  new := fun h => wpAny_newObj_type (h _ ⟨0, rfl⟩ rfl)
  pre := fun _ => trivial
  add := fun {A Q E s F Da o ys ds v y} g hP z r _ h => by
    obtain ⟨k, rfl⟩ := hP
    refine wpAny_list_append_plain ⟨k, g⟩ (fun h7 hl7 sb7 => ?_) (by rw [List.size_toArray]; exact zaC z)
    obtain ⟨k7, hl7⟩ := hl7
    have e7 : ys.toArray.push v = (ys ++ [v]).toArray := by simp
    rw [e7] at hl7
    exact h h7 s.toks _ sb7 hl7 ⟨k7, rfl⟩
theorem zgD {elt iter tg : Expr} {ifs : List Expr} {scope : Scope} {pos cpos : Pos} {xs : List Str} {is : List Nat} {bind : D → Option (List D)} {c e it : X}
    (hT : TargetC cx tg xs bind) (hb : ∀ d ds, bind d = some ds → ds.length = is.length) (hi : SoundI cx ε iter it) (ok : CompOK ε scope xs is) (hc : Tests cx (compSc ε scope (xs.zip is)) ifs c) (he : Sound cx (compSc ε scope (xs.zip is)) elt e)
    (hs : ∀ env x, foldedSetIterable iter env x = pure x)
    {n cf A env F s ρ ad m cm} (H : Here cx ε n cf A env F s ρ ad m cm) {items l : List D} (hit : evI cf it ρ = some items) (hl : compGo (turnC cf is bind c e ρ) items = some l)
    {use : Option (Value → Sem Unit)} {Q E : VP}
    (hRR : ∀ Da C F' s' m', Step cx F s F' s' → RepR cx F' s.heap s'.heap (.ref Da) (.own l) → s'.heap.Ns C m' → s.heap.get? C = none → ¬ F' C → C ≠ Da → compPost (model cx.prog cx.w) A E use Q (.ref Da) C (.ok .next) s') :
    wpAny (model cx.prog cx.w) A (comprehension (.ListComp elt [⟨tg, iter, ifs, 0⟩] scope pos) scope env cpos (newList []) false (eval iter env) use) Q E s :=
  ze3 accList hT hb hi ok hc he hs H hit hl trivial fun Da C F' s' m' ob ys st f0 nf nx g hP q z hn c1 c2 c3 => by
    obtain ⟨k, rfl⟩ := hP
    exact hRR Da C F' s' m' st (.own f0 nf nx g z q) hn c1 c2 c3
end
section
variable {cx : XCx} {ε : Sc}
theorem ziI {elt iter tg : Expr} {ifs : List Expr} {scope : Scope} {pos : Pos} {xs : List Str} {is : List Nat} {bind : D → Option (List D)} {c e it : X}
    (hT : TargetC cx tg xs bind) (hb : ∀ d ds, bind d = some ds → ds.length = is.length) (hi : SoundI cx ε iter it) (ok : CompOK ε scope xs is) (hc : Tests cx (compSc ε scope (xs.zip is)) ifs c) (he : Sound cx (compSc ε scope (xs.zip is)) elt e)
    (hs : ∀ env x, foldedSetIterable iter env x = pure x)
    {n cf A env F s ρ ad m cm} (H : Here cx ε n cf A env F s ρ ad m cm) {items l : List D} (hit : evI cf it ρ = some items) (hl : compGo (turnC cf is bind c e ρ) items = some l)
    {Q E : VP} (hQ : Post cx F s (.own l) Q) :
    wpAny (model cx.prog cx.w) A (eval (.ListComp elt [⟨tg, iter, ifs, 0⟩] scope pos) env) Q E s := by
  rw [eval_ListComp]
  refine zgD (use := none) hT hb hi ok hc he hs H hit hl fun Da C F' s' m' st q hn frC nC hne => ?_
  refine ⟨m', hn, fun h'' sb => ?_⟩
  have st2 : Step cx F s F' { s' with heap := h'' } := st.kept H.ok H.wd (wr := (· = C)) (fun b hb => by subst hb; exact ⟨frC, nC⟩) s'.toks fun a o h e => (sb.2 a h).trans e
  refine hQ _ F' _ st2 ?_
  cases q with
  | own lo nf nx g z q => exact .own lo nf nx ((sb.2 Da hne.symm).trans g) z (q.mono (fun _ h => h) fun a o f e => (sb.2 a fun e => nC (e ▸ f)).trans e)
theorem zkk {cf : CfT} {i : Nat} {it c e : X} {ρ : List Slot} {r : R} (h : ev cf (.comp i it c e) ρ = some [r]) : ∃ items l, evI cf it ρ = some items ∧ compGo (turnC cf [i] one1 c e ρ) items = some l ∧ r = .own l := by
  replace h := (zba _).symm.trans h
  split at h
  · rename_i items e1
    obtain ⟨l, e2, e3⟩ := Option.map_eq_some_iff.mp h
    cases e3
    refine ⟨items, l, by unfold evI; rw [e1], e2, rfl⟩
  · cases h
set_option genInjectivity false in
structure CompX (cx : XCx) (ε : Sc) (elt iter tg : Expr) (ifs : List Expr) (scope : Scope) (xs : List Str) (is : List Nat) (bind : D → Option (List D)) (it c e : X) : Prop where
  hT : TargetC cx tg xs bind
  hb : ∀ d ds, bind d = some ds → ds.length = is.length
  hi : SoundI cx ε iter it
  ok : CompOK ε scope xs is
  hc : Tests cx (compSc ε scope (xs.zip is)) ifs c
  he : Sound cx (compSc ε scope (xs.zip is)) elt e
  hs : ∀ env x, foldedSetIterable iter env x = pure x
theorem zbx {elt iter tg : Expr} {ifs : List Expr} {scope : Scope} {pos : Pos} {x : Str} {i : Nat} {it c e : X} (h : CompX cx ε elt iter tg ifs scope [x] [i] one1 it c e) :
    Sound cx ε (.ListComp elt [⟨tg, iter, ifs, 0⟩] scope pos) (.comp i it c e) := by
  refine Sound.ofE ?_ fun _ => rfl
  intro n cf A env F s ρ ad m cm H r hr Q E hQ
  obtain ⟨items, l, e1, e2, rfl⟩ := zkk hr
  exact ziI h.hT h.hb h.hi h.ok h.hc h.he h.hs H e1 e2 hQ
theorem zku {elt iter tg : Expr} {ifs : List Expr} {scope : Scope} {pos spos py : Pos} {xs : List Str} {is : List Nat} {bind : D → Option (List D)} {c e it : X} {y : Str} {j : Nat} (h : CompX cx ε elt iter tg ifs scope xs is bind it c e)
    (hy : ε.vars.lookup y = some j) (hf : ε.kinds.lookup y ≠ some .free) (hs : ∀ env : Env, env.scope.kind = .function → env.scope.names = ε.kinds → swapsWith (.ListComp elt [⟨tg, iter, ifs, 0⟩] scope pos) (some (.Name y py)) spos.line env = pure true)
    {n cf A env F s ρ ad m cm} (H : HereS cx ε n cf A env F s ρ ad m cm) {items l : List D} (hit : evI cf it ρ = some items) (hl : compGo (turnC cf is bind c e ρ) items = some l)
    (own : Bool) (hna : own = true → noApp j ρ = true ∧ dSlot j = false) {Q : Flow → Shared → Prop} {E : VP} (hQ : PostS cx ε env F s ρ ad (ρ.set j (if own then .own l else .val (.list l))) .next Q) :
    wpAny (model cx.prog cx.w) A (exec (.Assign [.Name y py] (.ListComp elt [⟨tg, iter, ifs, 0⟩] scope pos) spos) env) Q E s := by
  rw [exec_Assign_Name_used _ _ _ _ (hs env H.frm.en.kind H.frm.en.names)]
  refine wb (wpAny_standAt (wb ?_))
  show wpAny _ A (do let _ ← comprehension (.ListComp elt [⟨tg, iter, ifs, 0⟩] scope pos) scope env _ (newList []) false (eval iter env) (some (assign (.Name y py) env))) _ _ s
  refine wb (zgD (use := some (assign (.Name y py) env)) h.hT h.hb h.hi h.ok h.hc h.he h.hs H.here hit hl fun Da C F' s' m' st q hn frC nC hne => ?_)
  show wpAny _ A (assign (.Name y py) env (.ref Da)) _ _ _
  refine wpAny_assign_Name ?_
  have nm : ∀ {a}, s.heap.get? a = none → ¬ Mut env ρ ad a := fun e hm => by
    obtain ⟨o, e'⟩ := H.frm.isSome hm
    rw [e] at e'; cases e'
  cases q with
  | @own _ vs k _ lo nf nx g z q =>
  have fin : ∀ {F'' : AP} {sl : Slot} {ad' : NAd} {s'' : Shared} {m'' cm'' : SV}, sl = (if own then Slot.own l else .val (.list l)) → (∀ l', sl = .own l' → ad' j = Da) → (∀ i, i ≠ j → ad' i = ad i) → StepS cx env F s ρ ad F'' s'' (ρ.set j sl) ad' → Frm cx ε env F'' s'' (ρ.set j sl) ad' m'' cm'' → ¬ F'' C → s''.heap.Ns C m' →
      ∃ m, s''.heap.Ns C m ∧ ∀ h', Heap.SameBut C s''.heap h' → wpAny (model cx.prog cx.w) A (pure PUnit.unit) (fun _ s' => wpAny (model cx.prog cx.w) A (pure Flow.next) Q E s') E { s'' with heap := h' } := by
    intro F'' sl ad' s'' m'' cm'' hsl hDa had x f nF hn'
    refine ⟨m', hn', fun h' sb => wpAny_pure (wpAny_pure ?_)⟩
    have nM : ¬ Mut env (ρ.set j sl) ad' C := fun hm => by
      rcases hm with h | h | ⟨i, l', hi, rfl⟩
      · exact nm frC (.inl h)
      · exact nm frC (.inr (.inl h))
      · rw [zaP] at hi
        by_cases e : i = j
        · subst e
          rw [if_pos rfl] at hi
          split at hi
          · exact hne (hDa l' hi)
          · cases hi
        · rw [if_neg e] at hi
          rw [had i e] at frC
          exact nm frC (.inr (.inr ⟨i, l', hi, rfl⟩))
    obtain ⟨x2, f2⟩ := x.kept H.ok H.wd f (wr := [C]) (fun b hb => by simp only [List.mem_cons, List.not_mem_nil, or_false] at hb; subst hb; exact ⟨frC, nF, nM⟩) (h' := h') s''.toks (fun a o hm e => (sb.2 a (by simpa using hm)).trans e)
    rw [hsl] at x2 f2
    exact hQ .next F'' _ ad' m'' cm'' x2 f2 .next
  cases own with
  | false =>
    have st2 := st.freeze H.ok H.wd lo g
    refine zcv H st2 hy hf (sl := .val (.list l)) (ad' := ad) (fun _ _ => rfl) (.inl rfl) (fun h' hk => .val (.list (.inr rfl) (hk Da _ (.inl (.inr rfl)) g) z (q.mono (fun _ h => .inl h) fun a o f e => hk a o (.inl (.inl f)) e))) (fun _ e => nomatch e) fun s'' m'' cm'' hk x f => ?_
    exact fin (sl := .val (.list l)) (by rw [if_neg (by decide)]) (fun _ e => nomatch e) (fun _ _ => rfl) x f (fun h => h.elim nC hne) (hn.at' fun o e => hk C o (nm frC) e)
  | true =>
    refine zcv H st hy hf (sl := .own l) (ad' := fun i => if i = j then Da else ad i) (fun i hi => if_neg hi) (.inr (zfu (hna rfl).1)) (fun h' hk => ?_) (fun l' _ => ?_) fun s'' m'' cm'' hk x f => ?_
    · have : SlotRep cx F' h' (fun i => if i = j then Da else ad i) j (some (.ref ((fun i => if i = j then Da else ad i) j))) (.own l) := by
        refine .own (vs := vs) (n := k) ?_ ?_ ?_ z (q.mono (fun _ h => h) fun b o f e => hk b o (.inl f) e) (hna rfl).2 <;> simp only [if_true]
        · exact nf
        · exact nx
        · exact hk Da _ (.inr (nm lo)) g
      simpa using this
    · simp only [if_true]
      exact ⟨lo, nf, nx, _, g⟩
    · exact fin (sl := .own l) (ad' := fun i => if i = j then Da else ad i) (by rw [if_pos rfl]) (fun _ _ => if_pos rfl) (fun i hi => if_neg hi) x f nC (hn.at' fun o e => hk C o (nm frC) e)
theorem ev1_own {cf : CfT} {x : X} {ρ : List Slot} {d : D} (h : ev1 cf x ρ = some d) {P : List D → Prop} (hp : ∀ r, ev cf x ρ = some [r] → ∃ l, r = .own l ∧ P l) : ∃ l, d = .list l ∧ P l := by
  obtain ⟨r, e1, e2⟩ := zhn h
  obtain ⟨l, rfl, p⟩ := hp r e1
  cases e2
  exact ⟨l, rfl, p⟩
theorem zbo {elt iter tg : Expr} {ifs : List Expr} {scope : Scope} {pos spos py : Pos} {x y : Str} {i j : Nat} {it c e : X} (h : CompX cx ε elt iter tg ifs scope [x] [i] one1 it c e)
    (hy : ε.vars.lookup y = some j) (hf : ε.kinds.lookup y ≠ some .free) (hs : ∀ env : Env, env.scope.kind = .function → env.scope.names = ε.kinds → swapsWith (.ListComp elt [⟨tg, iter, ifs, 0⟩] scope pos) (some (.Name y py)) spos.line env = pure true) :
    SoundS cx ε (.Assign [.Name y py] (.ListComp elt [⟨tg, iter, ifs, 0⟩] scope pos) spos) (.assign j (.comp i it c e)) := by
  intro n cf A env F s ρ ad m cm H ρ' o he Q E hQ
  replace he := (zcG cf).symm.trans he
  obtain ⟨d, hd, e'⟩ := Option.map_eq_some_iff.mp he
  cases e'
  obtain ⟨l, rfl, items, e1, e2⟩ := ev1_own (P := fun l => ∃ items, evI cf it ρ = some items ∧ compGo (turnC cf [i] one1 c e ρ) items = some l) hd fun r hr => by
    obtain ⟨items, l, e1, e2, e3⟩ := zkk hr
    exact ⟨l, e3, items, e1, e2⟩
  exact zku h hy hf hs H e1 e2 false (fun e => nomatch e) (by rw [if_neg (by decide)]; exact hQ)
end
theorem zgI {kindOf : Str → Option NameKind} {x : Str} : ∀ {ps : List Str} {vs : List Value} {m : SV}, x ∉ ps → bindL kindOf (ps.zip vs) m x = m x
  | [], _, _, _ => rfl
  | _ :: _, [], _, _ => rfl
  | n :: ps, v :: vs, m, h => by
    rw [List.zip_cons_cons]
    unfold bindL
    rw [zgI fun h' => h (List.mem_cons_of_mem _ h')]
    split
    · exact if_neg fun (e : x = n) => h (by rw [e]; exact List.mem_cons_self)
    · rfl
theorem zfO {kindOf : Str → Option NameKind} {x : Str} {v : Value} (hk : kindOf x = some .local) : ∀ {ps : List Str} {vs : List Value} {m : SV} {k : Nat}, ps.Nodup → ps[k]? = some x → vs[k]? = some v → bindL kindOf (ps.zip vs) m x = some v
  | [], _, _, _, _, h, _ => nomatch h
  | _ :: _, [], _, _, _, _, h => nomatch h
  | n :: ps, v' :: vs, m, k, hn, h1, h2 => by
    obtain ⟨n1, hn'⟩ := List.nodup_cons.mp hn
    rw [List.zip_cons_cons]
    unfold bindL
    cases k with
    | zero =>
      simp only [List.getElem?_cons_zero, Option.some.injEq] at h1 h2
      subst h1; subst h2
      rw [zgI n1, if_pos hk]
      exact if_pos rfl
    | succ k =>
      simp only [List.getElem?_cons_succ] at h1 h2
      exact zfO hk hn' h1 h2
theorem zgJ {kindOf : Str → Option NameKind} {x : Str} : ∀ {ps : List Str} {vs : List Value} {m : SV}, x ∉ ps → bindC kindOf (ps.zip vs) m x = m x
  | [], _, _, _ => rfl
  | _ :: _, [], _, _ => rfl
  | n :: ps, v :: vs, m, h => by
    rw [List.zip_cons_cons]
    unfold bindC
    rw [zgJ fun h' => h (List.mem_cons_of_mem _ h')]
    split
    · rfl
    · exact if_neg fun (e : x = n) => h (by rw [e]; exact List.mem_cons_self)
theorem zfP {kindOf : Str → Option NameKind} {x : Str} {v : Value} (hk : kindOf x ≠ some .local) : ∀ {ps : List Str} {vs : List Value} {m : SV} {k : Nat}, ps.Nodup → ps[k]? = some x → vs[k]? = some v → bindC kindOf (ps.zip vs) m x = some v
  | [], _, _, _, _, h, _ => nomatch h
  | _ :: _, [], _, _, _, _, h => nomatch h
  | n :: ps, v' :: vs, m, k, hn, h1, h2 => by
    obtain ⟨n1, hn'⟩ := List.nodup_cons.mp hn
    rw [List.zip_cons_cons]
    unfold bindC
    cases k with
    | zero =>
      simp only [List.getElem?_cons_zero, Option.some.injEq] at h1 h2
      subst h1; subst h2
      rw [zgJ n1, if_neg hk]
      exact if_pos rfl
    | succ k =>
      simp only [List.getElem?_cons_succ] at h1 h2
      exact zfP hk hn' h1 h2
theorem za3 {x : Str} : ∀ {names : List (Str × NameKind)} {n : Nat} {acc : List (Str × Addr)}, (acc.lookup x).isSome ∨ (x, NameKind.cell) ∈ names → ((cellsFrom n names acc).lookup x).isSome
  | [], n, acc, h => by
    unfold cellsFrom
    rcases h with h | h
    · exact h
    · cases h
  | (y, k) :: r, n, acc, h => by
    unfold cellsFrom
    split
    · rename_i hk
      refine za3 ?_
      rw [List.lookup_cons]
      cases hx : x == y with
      | true => exact .inl rfl
      | false =>
        rcases h with h | h
        · exact .inl h
        · rcases List.mem_cons.mp h with e | h
          · cases e; simp at hx
          · exact .inr h
    · rename_i hk
      refine za3 (h.imp id fun h => ?_)
      rcases List.mem_cons.mp h with e | h
      · cases e; simp at hk
      · exact h
noncomputable def boundTo (fn : Fn) (args : List D) : Option (List D) :=
  if fn.va then (if fn.np ≤ args.length ∧ args.length ≤ lim then some (args.take fn.np ++ [.tup (args.drop fn.np)]) else none)
  else if args.length = fn.np then some args else none
noncomputable def BindOK (cx : XCx) (fd : FuncData) (fn : Fn) (ps : List Str) : Prop :=
  ∀ A F s vs args ds, CxOk cx → Wd cx F s → RepL cx.T F s.heap vs args → boundTo fn args = some ds → ∀ (Q : List (Str × Value) → Shared → Prop) (E : VP),
    (∀ F' s' vs', Step cx F s F' s' → RepL cx.T F' s'.heap vs' ds → Q (ps.zip vs') s') → wpAny (model cx.prog cx.w) A (bindArgs fd ⟨vs, []⟩) Q E s
set_option genInjectivity false in
structure FnIs (cx : XCx) (ε : Sc) (i : Nat) (fn : Fn) (fd : FuncData) (body : List Stmt) (ps : List Str) : Prop where
  obj : ∃ o, cx.h0.get? (cx.fa i) = some o ∧ o.data = .func fd
  nx : ¬ cx.X (cx.fa i)
  code : ∃ c, fd.code = .ref c ∧ ¬ cx.X c ∧ cx.h0.CodeRec (.ref c) fd.qualname
  body : fd.body = .stmts body
  codeAt : ∀ c q, ε.code = some (c, q) → fd.code = .ref c ∧ fd.qualname ++ ".<locals>." = q
  clo : fd.closure = []
  glob : fd.globals = mainGlobals
  blt : fd.builtins = builtinsNs
  co : fd.scope.isCoroutine = false
  gen : fd.scope.isGenerator = false
  kind : fd.scope.kind = .function
  names : fd.scope.names = ε.kinds
  bind : BindOK cx fd fn ps
  len : ∀ args ds, boundTo fn args = some ds → ds.length = ps.length
  nodup : ps.Nodup
  pv : ∀ (k : Nat) x, ps[k]? = some x → ε.vars.lookup x = some k
  vk : ∀ x j, ε.vars.lookup x = some j → ε.kinds.lookup x = some .local ∨ ε.kinds.lookup x = some .cell
  sc : ScOK ε
theorem zel {fn : Fn} {args : List D} {ρ : List Slot} (h : bindD fn args = some ρ) : ∃ ds k, boundTo fn args = some ds ∧ ρ = ds.map .val ++ List.replicate k .unset := by
  unfold bindD at h
  unfold boundTo
  split at h
  · split at h <;> cases h
    rename_i h1 h2
    rw [if_pos h1, if_pos h2]
    exact ⟨_, fn.ns - fn.np - 1, rfl, by simp⟩
  · split at h <;> cases h
    rename_i h1 h2
    rw [if_neg h1, if_pos h2]
    exact ⟨_, _, rfl, rfl⟩
theorem zbI {ds : List D} {k j : Nat} : slotAt (ds.map .val ++ List.replicate k .unset) j = (match ds[j]? with | some d => .val d | none => .unset) := by
  unfold slotAt
  rw [List.getD_eq_getElem?_getD, List.getElem?_append]
  split
  · rename_i h
    rw [List.getElem?_map]
    rw [List.length_map] at h
    rw [List.getElem?_eq_getElem h]
    rfl
  · rename_i h
    rw [List.length_map] at h
    rw [List.getElem?_eq_none (Nat.le_of_not_lt h), List.getElem?_replicate]
    split <;> rfl
section
variable {cx : XCx}
theorem zl3 {d n : Nat} (h : d + (n + 1) < 890) : d + 1 + n < 890 := by omega
theorem zl0 {u n : Nat} (h : u + 10 * (n + 1) + 200 < 9900) : u + 3 + 10 * n + 200 < 9900 := by omega
theorem zl1 {u n : Nat} (h : u + 10 * (n + 1) + 200 < 9900) : u + 3 + 10 * n + 207 < 9900 := by omega
theorem zky {ε : Sc} {i : Nat} {fn : Fn} {fd : FuncData} {body : List Stmt} {ps : List Str} (X : FnIs cx ε i fn fd body ps) (hs : SoundSs cx ε body fn.body) (ok : CxOk cx) {n : Nat} {cf : CfT} (hc : CallOK cx n cf)
    {args : List D} {ρ ρ' : List Slot} {o : Out} {d : D} (hb : bindD fn args = some ρ) (he : ex cf fn.body ρ = some (ρ', o)) (hd : o = .ret d ∨ (o = .next ∧ d = .none))
    {A : Around} {F : AP} {s : Shared} {vs : List Value} (bud : Bud (n + 1) A) (w : Wd cx F s) (q : RepL cx.T F s.heap vs args) {Rs : Result → Shared → Prop}
    (hR : ∀ v F' s', Step cx F s F' s' → Rep cx.T F' s'.heap v d → Rs (.ok (.ret v)) s') : codeAny (model cx.prog cx.w) A (.call (.ref (cx.fa i)) ⟨vs, []⟩) Rs s := by
  obtain ⟨ob, g, hfd⟩ := X.obj
  obtain ⟨c, hcode, ncx, hcd⟩ := X.code
  obtain ⟨ds, kk, hbd, rfl⟩ := zel hb
  have hroom : A.depth < recursionLimit := Nat.lt_of_le_of_lt (Nat.le_add_right _ _) (Nat.lt_trans bud.dp (by decide))
  refine codeAny_call_function hroom (w.base _ _ g X.nx) hfd X.co X.gen X.body (by rw [hcode]; exact hcd.at fun o e => w.base _ o e ncx) ?_
  refine X.bind A.in1 F s vs args ds ok w q hbd _ _ fun F₁ s₁ vs' st₁ q₁ => ?_
  rw [X.clo]
  have hlen : ds.length = ps.length := X.len _ _ hbd
  have hvl : vs'.length = ps.length := q₁.length.trans hlen
  have kindOf : ∀ x, (callEnvC fd s₁.heap.objs.size (cx.fa i)).kindOf x = ε.kinds.lookup x := fun x => by show fd.scope.names.lookup x = _; rw [X.names]
  have inps : ∀ x ∈ ps, ∃ k, ps[k]? = some x := fun x hx => by
    obtain ⟨k, hk, e⟩ := List.mem_iff_getElem.mp hx
    exact ⟨k, by rw [List.getElem?_eq_getElem hk, e]⟩
  have hkind : ∀ x ∈ ps.zip vs', fd.scope.names.lookup x.1 = some .local ∨ (fd.scope.names.lookup x.1 = some .cell ∧ ((cellsFrom (s₁.heap.objs.size + 1) fd.scope.names []).lookup x.1).isSome = true) := by
    intro x hx
    obtain ⟨k, hk⟩ := inps x.1 (List.of_mem_zip hx).1
    rw [X.names]
    rcases X.vk x.1 k (X.pv k x.1 hk) with h | h
    · exact .inl h
    · exact .inr ⟨h, za3 (.inr (zaQ h))⟩
  refine wpAny_newFunctionEnv_cells X.kind hkind fun env hen s₂ ic => ?_
  have hen' : env = callEnvC fd s₁.heap.objs.size (cx.fa i) := hen
  subst hen'
  obtain ⟨h₂, tk₂, rfl⟩ := ic.toInCall.same
  have keep₂ := ic.toInCall.keep
  have st₂ : Step cx F₁ s₁ F₁ { s₁ with heap := h₂, toks := tk₂ } := Step.grown ok st₁.wd tk₂ keep₂
  have w₂ := st₂.wd
  refine ⟨w₂.lim ok, codeAny_func ?_⟩
  let E₀ : Env := callEnvC fd s₁.heap.objs.size (cx.fa i)
  let m₀ : Str → Option Value := bindL E₀.kindOf (ps.zip vs') fun _ => none
  let cm₀ : Str → Option Value := bindC E₀.kindOf (ps.zip vs') fun _ => none
  have frL : s₁.heap.get? s₁.heap.objs.size = none := zar _
  have frC : ∀ n c, E₀.cells.lookup n = some c → s₁.heap.get? c = none ∧ c ≠ s₁.heap.objs.size := fun n c hc => by
    have hlt : s₁.heap.objs.size < c := ic.above n c (mem_of_lookup hc)
    refine ⟨?_, Nat.ne_of_gt hlt⟩
    cases e : s₁.heap.get? c with
    | none => rfl
    | some o => exact absurd (Heap.lt_size e) (Nat.not_lt.mpr (Nat.le_of_lt hlt))
  have noOwn : ∀ j l, slotAt (ds.map Slot.val ++ List.replicate kk .unset) j ≠ .own l := fun j l e => by
    rw [zbI] at e
    split at e <;> cases e
  have fresh₀ : ∀ a, Mut E₀ (ds.map Slot.val ++ List.replicate kk .unset) (fun _ => 0) a → s₁.heap.get? a = none := fun a h => by
    rcases h with rfl | ⟨n, hn⟩ | ⟨j, l, hj, _⟩
    · exact frL
    · exact (frC n a hn).1
    · exact absurd hj (noOwn j l)
  have slots : ∀ x j, ε.vars.lookup x = some j → (ε.kinds.lookup x = some .local ∧ SlotRep cx F₁ h₂ (fun _ => 0) j (m₀ x) (slotAt (ds.map Slot.val ++ List.replicate kk .unset) j)) ∨
      ((ε.kinds.lookup x = some .cell ∨ ε.kinds.lookup x = some .free) ∧ (∃ c, E₀.cells.lookup x = some c) ∧ SlotRep cx F₁ h₂ (fun _ => 0) j (cm₀ x) (slotAt (ds.map Slot.val ++ List.replicate kk .unset) j)) := by
    intro x j hx
    have look : ∀ dj, ds[j]? = some dj → ps[j]? = some x ∧ ∃ v, vs'[j]? = some v ∧ Rep cx.T F₁ h₂ v dj := fun dj hj => by
      obtain ⟨v, hv, r⟩ := q₁.get hj
      have hlt : j < ps.length := by rw [← hlen]; exact (List.getElem?_eq_some_iff.mp hj).1
      have hp : ps[j]? = some ps[j] := List.getElem?_eq_getElem hlt
      have := X.sc.inj x ps[j] j hx (X.pv j _ hp)
      exact ⟨by rw [hp, this], v, hv, st₂.rep st₁.wd r⟩
    rw [zbI]
    rcases X.vk x j hx with hk | hk
    · left
      refine ⟨hk, ?_⟩
      split
      · rename_i dj hj
        obtain ⟨hp, v, hv, r⟩ := look dj hj
        have : m₀ x = some v := zfO (by rw [kindOf]; exact hk) X.nodup hp hv
        rw [this]
        exact .val r
      · exact .unset
    · right
      refine ⟨.inl hk, ?_, ?_⟩
      · refine Option.isSome_iff_exists.mp (za3 (.inr ?_))
        rw [X.names]
        exact zaQ hk
      · split
        · rename_i dj hj
          obtain ⟨hp, v, hv, r⟩ := look dj hj
          have : cm₀ x = some v := zfP (by rw [kindOf, hk]; intro e; cases e) X.nodup hp hv
          rw [this]
          exact .val r
        · exact .unset
  have fr : Frm cx ε E₀ F₁ { s₁ with heap := h₂, toks := tk₂ } (ds.map Slot.val ++ List.replicate kk .unset) (fun _ => 0) m₀ cm₀ := by
    refine ⟨⟨X.kind, X.names, X.glob, X.blt, X.codeAt, st₁.wd.newNotX frL, fun n c hc => st₁.wd.newNotX (frC n c hc).1, ic.toInCall.ns, ic.cell, slots⟩, st₁.wd.newNotF frL, fun n c hc => ⟨st₁.wd.newNotF (frC n c hc).1, (frC n c hc).2⟩, fun n n' c h h' => name_of_addr ic.apart (mem_of_lookup h) (mem_of_lookup h'), fun j _ l _ h => absurd h (noOwn j l), fun j l h => absurd h (noOwn j l)⟩
  have budE : BudE n (A.deeper E₀) := by
    obtain ⟨l, hl⟩ := bud.fs
    refine ⟨⟨bud.hd, zl3 bud.dp, zl0 bud.un, ⟨_, by show A.frames.map _ = _; rw [hl]; rfl⟩⟩, zl1 bud.un, E₀, l, by show A.frames.map _ = _; rw [hl]; rfl, X.gen, X.co, X.blt, X.glob⟩
  refine hs n cf (A.deeper E₀) E₀ F₁ _ _ _ m₀ cm₀ ⟨ok, X.sc, hc, budE, w₂, fr⟩ ρ' o he _ _ fun f F' s' ad' m' cm' x fr' out => ?_
  have stF : Step cx F s F' s' := by
    refine st₁.trans ⟨fun a h => x.sub a h, fun a h => ?_, fun a o e nx => x.keep a o (keep₂ a o e) nx fun hm => ?_, x.os.trans rfl, x.wd⟩
    · rcases x.new a h with q | q | q
      · exact .inl q
      · right
        cases e : s₁.heap.get? a with
        | none => rfl
        | some o => rw [show ({ s₁ with heap := h₂, toks := tk₂ } : Shared).heap.get? a = some o from keep₂ a o e] at q; cases q
      · exact .inr (fresh₀ a q)
    · have := fresh₀ a hm
      rw [e] at this; cases this
  rcases hd with rfl | ⟨rfl, rfl⟩
  · cases out with
    | ret r => exact hR _ F' s' stF r
  · cases out
    exact hR _ F' s' stF .none
theorem zfL (ok : CxOk cx) {fns : Nat → Option Fn} (h : ∀ i fn, fns i = some fn → ∃ ε fd body ps, FnIs cx ε i fn fd body ps ∧ SoundSs cx ε body fn.body) (hk : ∀ n, cx.cok (callF fns n) := by intro _; exact trivial) : ∀ n, CallOK cx n (callF fns n)
  | 0 => ⟨hk 0, fun f args d e => by unfold callF at e; cases e⟩
  | n + 1 => ⟨hk (n + 1), fun f args d e => by
    unfold callF at e
    split at e
    · cases e
    · rename_i fn hf
      obtain ⟨ε, fd, body, ps, X, hs⟩ := h f fn hf
      obtain ⟨o, g, hfd⟩ := X.obj
      refine ⟨⟨o, fd, g, hfd, X.nx⟩, fun A F s vs bud w q Rs hR => ?_⟩
      split at e
      · cases e
      · rename_i ρ hb
        split at e
        · rename_i ρ' d' he
          cases e
          exact zky X hs ok (zfL ok h hk n) hb he (.inl rfl) bud w q hR
        · rename_i ρ' he
          cases e
          exact zky X hs ok (zfL ok h hk n) hb he (.inr ⟨rfl, rfl⟩) bud w q hR
        · cases e⟩
end
set_option genInjectivity false in
structure TabG (cx : XCx) where
  d : Addr
  f : Int → Option Value
  nx : ¬ cx.X d
  hm : cx.h0.MapOf (intKind cx.prog cx.w) d f
  sys : (d == sysModules) = false
  yes : ∀ c : Nat, c < 128 → special.contains c = true → ∃ u, f (c : Int) = some (.str ⟨#[92, c]⟩ u)
  no : ∀ c : Nat, c < 128 → special.contains c = false → f (c : Int) = none
section
variable {cx : XCx} {ε : Sc}
theorem zd1 (G : TabG cx) {o : Expr} {y : X} {x : Str} {p apos pos : Pos} (hb : plainBase o = true) (hl : (apos.endLine == pos.line) = true) (h : Sound cx ε o y) (hk : ε.kinds.lookup x = some .globalImplicit) (hv : cx.mg x = some (.ref G.d)) (hd : (x == ("__debug__" : Str)) = false) :
    Sound cx ε (.Call (.Attribute o "translate" apos) [.Name x p] [] pos) (.op .translate (.cons y .nil)) := by
  refine Sound.ofE ?_ fun _ => rfl
  intro n cf A env F s ρ ad m cm H res he Q E hQ
  obtain ⟨rs, e1, e2⟩ := ev_op he
  obtain ⟨r0, rs', e3, e4, rfl⟩ := zaJ e1
  cases zcp e4
  refine zdW hb hl (by simp) rfl ?_
  refine h.ev n cf A env F s ρ ad m cm H r0 e3 _ _ fun v F' s' st q => ?_
  simp only [List.map_cons, List.map_nil] at e2; delta opF at e2; dsimp only at e2
  unfold opTranslate at e2
  split at e2
  · rename_i c ec
    split at e2 <;> cases e2
    rename_i hc
    have qb := q.brep
    have ec' : r0.ds = .str [c] := by
      have := ec
      simpa using this
    rw [ec'] at qb
    obtain ⟨t, rfl, pp, z⟩ := qb.str_inv
    have noref : ∀ a, Value.str ⟨[c].toArray⟩ t = .ref a → ∃ o, s'.heap.get? a = some o ∧ o.dict = none := fun _ e => nomatch e
    with_reducible refine GM.of (.str ⟨[c].toArray⟩ t) (typeIs_str _ _ _) PySem.F.slot_str_translate PySem.F.type_str_translate noref ?_
    have H1 := H.step st
    have hst : starred (.Name x p) = false := rfl
    rw [zan hst, zau]
    refine Calls.callWith_builtin rfl (Calls.evalArgs_plain (Calls.spliced_cons (zb0 H1 hk hv hd (Calls.spliced_nil ?_))))
    show wpAny _ _ (call (.builtin "str.translate") [.str ⟨#[c]⟩ t, .ref G.d]) _ _ s'
    have hm : s'.heap.MapOf (intKind cx.prog cx.w) G.d G.f := let ⟨o, es, ep, g, r⟩ := G.hm; ⟨o, es, ep, st.wd.base _ _ g G.nx, r⟩
    cases hsp : special.contains c with
    | true =>
      obtain ⟨u, hu⟩ := G.yes c hc hsp
      refine call_meetsIn PySem.F.slot_str_translate (typeIs_str _ _ _) PySem.F.entry_str_translate (PySem.F.args_str_translate_2 _ _) (zfc (f := G.f) (x := c) (u := u) hc) ⟨⟨hm, hu⟩, fun k k' => ?_⟩
      rw [if_pos hsp] at hQ
      refine hQ _ F' _ (st.toks k') (.val (.str (l := [92, c]) k (fun c' h => ?_) (by simp [lim])))
      simp only [List.mem_cons, List.not_mem_nil, or_false] at h
      rcases h with rfl | rfl <;> omega
    | false =>
      refine call_meetsIn PySem.F.slot_str_translate (typeIs_str _ _ _) PySem.F.entry_str_translate (PySem.F.args_str_translate_2 _ _) (zes (f := G.f) hc G.sys) ⟨⟨hm, G.no c hc hsp, H.bud.hd⟩, fun h' k k' hk' => ?_⟩
      rw [if_neg (by rw [hsp]; decide)] at hQ
      refine hQ _ F' _ (st.trans (Step.grown H.ok st.wd k' hk')) (.val (.str (l := [c]) k (fun c' h => ?_) (by simp [lim])))
      simp only [List.mem_cons, List.not_mem_nil, or_false] at h
      subst h; omega
  · cases e2
theorem zi7 {a b : PySem.Str} {e : Expr} {y : X} {k k' : Nat} {p p' p'' pos : Pos} {la lb : List Nat} (h : Sound cx ε e y) (ha : constD (.str a) = some (.str la)) (hb : constD (.str b) = some (.str lb)) :
    Sound cx ε (.JoinedStr [.Constant (.str a) k p, .FormattedValue e (-1) none p', .Constant (.str b) k' p''] pos) (.op .fmt (.cons (.const (.str la)) (.cons y (.cons (.const (.str lb)) .nil)))) := by
  refine Sound.ofE ?_ fun _ => rfl
  intro n cf A env F s ρ ad m cm H res he Q E hQ
  obtain ⟨rs, e1, e2⟩ := ev_op he
  obtain ⟨r0, rs0, e3, e4, rfl⟩ := zaJ e1
  obtain ⟨r1, rs1, e5, e6, rfl⟩ := zaJ e4
  obtain ⟨r2, rs2, e7, e8, rfl⟩ := zaJ e6
  cases zcp e8
  have c0 : r0 = .val (.str la) := by replace e3 := (zaE _).symm.trans e3; cases e3; rfl
  have c2 : r2 = .val (.str lb) := by replace e7 := (zaE _).symm.trans e7; cases e7; rfl
  subst c0; subst c2
  obtain ⟨l2, hr1, e2⟩ := Option.bind_eq_some_iff.mp (show (strO r1.ds).bind (fun b => strD (la ++ b ++ lb)) = some res from e2)
  replace hr1 := zbw hr1
  obtain ⟨hz, rfl⟩ := zca (show (if (la ++ l2 ++ lb).length ≤ lim then some (R.val (.str (la ++ l2 ++ lb))) else none) = some res from e2)
  · skip
    refine wpAny_JoinedStr ?_
    show wpAny _ _ (eval (.Constant (.str a) k p) env) _ E s
    refine (zab ha).ev n cf A env F s ρ ad m cm H _ e3 _ _ fun v F1 s1 st1 q1 => ?_
    have q1 := q1.brep
    obtain ⟨t1, rfl, p1, z1⟩ := BRep.str_inv (l := la) q1
    have H1 := H.step st1
    refine ⟨_, _, rfl, ?_, ?_⟩
    · show (Str.empty ++ PySem.Str.mk la.toArray).length ≤ sizeLine
      have : (Str.empty ++ PySem.Str.mk la.toArray).length = la.length := by
        rw [strLen_append]; show 0 + la.toArray.size = _; simp
      rw [this]; exact zaC z1
    show wpAny _ _ (eval (.FormattedValue e (-1) none p') env) _ E s1
    refine wpAny_FormattedValue_plain ?_
    refine h.ev n cf A env F1 s1 ρ ad m cm H1 r1 e5 _ _ fun v F2 s2 st2 q2 => ?_
    have q2 := q2.brep
    rw [hr1] at q2
    obtain ⟨t2, rfl, p2, z2⟩ := q2.str_inv
    have len1 : (Str.empty ++ PySem.Str.mk la.toArray).length = la.length := by
      rw [strLen_append]; show 0 + la.toArray.size = _; simp
    have len2 : (Str.empty ++ PySem.Str.mk la.toArray ++ PySem.Str.mk l2.toArray).length = la.length + l2.length := by
      rw [strLen_append, len1]; show _ + l2.toArray.size = _; simp
    have hz' : la.length + l2.length + lb.length ≤ lim := by rw [List.length_append, List.length_append] at hz; exact hz
    have rest : ∀ t2' k2, ∃ y t, (Value.str ⟨l2.toArray⟩ t2') = .str y t ∧ (Str.empty ++ PySem.Str.mk la.toArray ++ y).length ≤ sizeLine ∧ Joins (model cx.prog cx.w) A E (evalEach [.Constant (.str b) k' p''] env) (Str.empty ++ PySem.Str.mk la.toArray ++ y) (fun out s₁ => out.length ≤ sizeLine ∧ Q (.str out s₁.toks) { s₁ with toks := s₁.toks + 1 }) { s2 with toks := k2 } := by
      intro t2' k2
      refine ⟨_, _, rfl, by rw [len2]; exact zaC (by omega), ?_⟩
      show wpAny _ _ (eval (.Constant (.str b) k' p'') env) _ E _
      have H2 := (H1.step st2).step ((Step.refl (H1.step st2).wd).toks k2)
      refine (zab hb).ev n cf A env F2 _ ρ ad m cm H2 _ e7 _ _ fun v F3 s3 st3 q3 => ?_
      have q3 := q3.brep
      obtain ⟨t3, rfl, p3, z3⟩ := BRep.str_inv (l := lb) q3
      have len3 : (Str.empty ++ PySem.Str.mk la.toArray ++ PySem.Str.mk l2.toArray ++ PySem.Str.mk lb.toArray).length = la.length + l2.length + lb.length := by
        rw [strLen_append, len2]; show _ + lb.toArray.size = _; simp
      refine ⟨_, _, rfl, by rw [len3]; exact zaC hz', ?_⟩
      refine ⟨by rw [len3]; exact zaC hz', ?_⟩
      have e : (Str.empty ++ PySem.Str.mk la.toArray ++ PySem.Str.mk l2.toArray ++ PySem.Str.mk lb.toArray) = PySem.Str.mk (la ++ l2 ++ lb).toArray := by
        show PySem.Str.mk (#[] ++ la.toArray ++ l2.toArray ++ lb.toArray) = _
        simp
      rw [e]
      refine hQ _ F3 _ ((st1.trans ((st2.toks k2).trans st3)).toks _) (.val (.str _ (fun c hc => ?_) (by simpa [List.length_append] using hz)))
      rcases List.mem_append.mp hc with hc | hc
      · rcases List.mem_append.mp hc with hc | hc
        · exact p1 c hc
        · exact p2 c hc
      · exact p3 c hc
    refine wpAny_formatField_str (rest t2 s2.toks) (rest s2.toks (s2.toks + 1)) ?_
    show l2.toArray.size ≤ sizeLine
    rw [List.size_toArray]; exact zaC z2
end
end Mine
end
section MpZ2x
open PySem PySem.Builtin.Str
namespace Mine
open PySem.Builtin PySem.Builtin.Re
section
variable {prog : Program} {w : World} {A A₀ : Around} {E : VP} {s : Shared} {P C : Addr} {codes : Array Value} {a : Array Nat} {u : Tok}
theorem zlE : ∀ (ps : List (PySem.Str × Tok)), (∀ p ∈ ps, p.1.cps.size ≤ 1000) → (ps.map fun x => x.1.cps.size).sum ≤ ps.length * 1000
  | [], _ => Nat.le_refl _
  | p :: r, h => by
    have h1 := h p List.mem_cons_self
    have h2 := zlE r fun q hq => h q (List.mem_cons_of_mem _ hq)
    simp only [List.map_cons, List.sum_cons, List.length_cons]
    rw [Nat.succ_mul, Nat.add_comm]; exact Nat.add_le_add h2 h1
theorem ziz {h : Heap} {a : Addr} {vs : Array Value} {n : Nat} (g : h.get? a = some (lobj vs n)) : h.IsList a vs := ⟨_, g, rfl, n, rfl⟩
theorem zjS {R : Result → Shared → Prop} (hp : PatAt s.heap P C codes) {repl : Value} {n done start : Nat} {must : Bool} {pc : Addr} {ps : List (PySem.Str × Tok)} {kk : Nat} (hl : s.heap.get? pc = some (lobj (strValues ps).toArray kk))
    (hf : ∃ k, k < 100 ∧ ((Sre.forSearch reCode a 1 start a.size must).runFor (4 * (k + 1))).outcome = some .failed) (hz : ps.length ≤ 1000) (ha : a.size ≤ 1000) (hps : ∀ p ∈ ps, p.1.cps.size ≤ 100)
    {res : PySem.Str} (hres : Txt.join Str.empty (ps.map (·.1) ++ (if done < a.size then [⟨a.extract done a.size⟩] else [])) = res)
    (h : ∀ h' tk t, Heap.SameBut pc s.heap h' → R (.ok (.ret (.str res t))) { s with heap := h', toks := tk }) :
    wpAny (model prog w) A (Builtin.«re.Pattern.sub.loop» ⟨[.ref P, .str ⟨a⟩ u, repl, rawInt 1, rawInt 0, rawInt n, rawInt done, rawInt start, .bool must, .ref pc, .bool false], []⟩) (fun fin s' => match fin with | .done f => R (.ok f) s' | .again c' => c'.quiet = true ∧ codeAny (model prog w) A₀ c' R s') E s := by
  obtain ⟨k, hk, ho⟩ := hf
  unfold Builtin.«re.Pattern.sub.loop»
  refine wb (zht hp ?_)
  show wpAny _ _ (reNextFound _ start must >>= _) _ _ _
  unfold reNextFound
  refine wb (ziF k hk ho ?_)
  have jn : ∀ (ps' : List (PySem.Str × Tok)) (k' : Nat) (s' : Shared), s'.heap.get? pc = some (lobj (strValues ps').toArray k') → ps'.length ≤ 1001 → (∀ p ∈ ps', p.1.cps.size ≤ 1000) → Txt.join Str.empty (ps'.map (·.1)) = res → (∀ tk t, R (.ok (.ret (.str res t))) { s' with toks := tk }) →
      wpAny (model prog w) A (do
        let joiner ← reSlice a 0 0 0
        let text ← if ((← seqItems? (.ref pc)).getD #[]).isEmpty then pure joiner
          else call (.builtin (if (0 : Nat) == 0 then "str.join" else "bytes.join")) [joiner, .ref pc]
        if false then ret (← holding [text] do newTuple [text, ← mkInt (n : Int)]) else ret text) (fun fin s' => match fin with | .done f => R (.ok f) s' | .again c' => c'.quiet = true ∧ codeAny (model prog w) A₀ c' R s') E s' := by
    intro ps' k' s' g hz' hsz' hr hR
    have e0 : (PySem.Str.mk (a.extract 0 0)) = Str.empty := by simp [Str.empty]
    unfold reSlice
    simp only [beq_self_eq_true, if_true]
    rw [e0]
    refine wb (wpAny_mkStr ?_ (by decide))
    refine wb (wb (wpAny_load g (wpAny_pure ?_)))
    cases ps' with
    | nil =>
      have hr' : res = Str.empty := by rw [← hr]; rfl
      rw [hr'] at hR
      exact wpAny_pure (hR _ _)
    | cons p r =>
      rw [if_neg (by simp [strValues])]
      refine wb (SC.join (l := p :: r) (texts := (p :: r).map (·.1)) (ziz g) rfl ?_ fun t' k2 => ?_)
      · unfold JoinOk tooLong
        rw [zhM, Nat.zero_add]
        have hb := zlE (p :: r) hsz'
        have hs : ((List.map (fun x => x.1) (p :: r)).map fun x => x.length + Str.empty.length).sum = ((p :: r).map fun x => x.1.cps.size).sum := by
          rw [List.map_map]; rfl
        rw [hs]
        simp only [Bool.not_eq_true', decide_eq_false_iff_not]
        rw [sizeLine_eq]
        have : (p :: r).length * 1000 ≤ 1001 * 1000 := Nat.mul_le_mul_right _ hz'
        exact Nat.not_lt.mpr (Nat.le_trans hb (Nat.le_trans this (by decide)))
      · rw [hr]
        exact wpAny_pure (hR _ _)
  by_cases hd : done < a.size
  · rw [if_pos hd] at hres
    show wpAny _ _ (do
      if (done : Int).toNat < a.size then updateSeq pc (·.push (← reSlice a 0 (done : Int).toNat a.size))
      let joiner ← reSlice a 0 0 0
      let text ← if ((← seqItems? (.ref pc)).getD #[]).isEmpty then pure joiner
        else call (.builtin (if (0 : Nat) == 0 then "str.join" else "bytes.join")) [joiner, .ref pc]
      if false then ret (← holding [text] do newTuple [text, ← mkInt (n : Int)]) else ret text) _ _ _
    rw [if_pos (by simpa using hd)]
    have e1 : (done : Int).toNat = done := Int.toNat_natCast done
    rw [e1]
    unfold reSlice
    simp only [beq_self_eq_true, if_true]
    have hsz : (PySem.Str.mk (a.extract done a.size)).cps.size ≤ 1000 := by show (a.extract done a.size).size ≤ 1000; rw [Array.size_extract]; exact Nat.le_trans (Nat.sub_le _ _) (Nat.le_trans (Nat.min_le_left _ _) ha)
    refine wb (wpAny_mkStr ?_ (by show (a.extract done a.size).size ≤ _; have := hsz; rw [sizeLine_eq]; exact Nat.le_trans hsz (by decide)))
    have hlp : (strValues ps).toArray.size ≤ sizeLine := by rw [List.size_toArray]; unfold strValues; rw [List.length_map, sizeLine_eq]; exact Nat.le_trans hz (by decide)
    refine wb (wpAny_updateSeq (o := lobj (strValues ps).toArray kk) hl rfl ?_ hlp (by rw [Array.size_push]; omega))
    have e2 : (strValues ps).toArray.push (.str ⟨a.extract done a.size⟩ s.toks) = (strValues (ps ++ [(⟨a.extract done a.size⟩, s.toks)])).toArray := by
      unfold strValues; simp
    have g' := IsL.update (n := kk) (items := (strValues ps).toArray) (show IsL s.heap pc (strValues ps).toArray kk from hl) fun x => x.push (.str ⟨a.extract done a.size⟩ s.toks)
    simp only [e2] at g'
    have := jn (ps ++ [(⟨a.extract done a.size⟩, s.toks)]) _ { s with heap := s.heap.update pc (Obj.mapSeq fun x => x.push (.str ⟨a.extract done a.size⟩ s.toks)), toks := s.toks + 1 } g' (by rw [List.length_append]; exact Nat.succ_le_succ hz) (fun p hp => ?_) (by rw [List.map_append]; exact hres) (fun tk t => h _ _ _ (Heap.SameBut.update ..))
    · unfold reSlice at this
      exact this
    · rcases List.mem_append.mp hp with hp | hp
      · exact Nat.le_trans (hps p hp) (by decide)
      · simp only [List.mem_cons, List.not_mem_nil, or_false] at hp
        subst hp
        exact hsz
  · rw [if_neg hd, List.append_nil] at hres
    show wpAny _ _ (do
      if (done : Int).toNat < a.size then updateSeq pc (·.push (← reSlice a 0 (done : Int).toNat a.size))
      let joiner ← reSlice a 0 0 0
      let text ← if ((← seqItems? (.ref pc)).getD #[]).isEmpty then pure joiner
        else call (.builtin (if (0 : Nat) == 0 then "str.join" else "bytes.join")) [joiner, .ref pc]
      if false then ret (← holding [text] do newTuple [text, ← mkInt (n : Int)]) else ret text) _ _ _
    rw [if_neg (by simpa using hd)]
    exact jn ps kk s hl (Nat.le_succ_of_le hz) (fun p hp => Nat.le_trans (hps p hp) (by decide)) hres (fun tk t => h s.heap tk t (Heap.SameBut.refl ..))
end
end Mine
end MpZ2x
section MpZ3x
open PySem PySem.Builtin.Str
namespace Mine
open PySem.Builtin PySem.Builtin.Re
section
variable {prog : Program} {w : World} {A A₀ : Around} {E : VP} {s : Shared} {P C : Addr} {codes : Array Value} {a : Array Nat} {u : Tok}
end
end Mine
end MpZ3x
section MpZ4x
open PySem PySem.Builtin.Str
namespace Mine
open PySem.Builtin PySem.Builtin.Re
theorem fn_call : ∃ v, typeLookup (.type "function") "__call__" = pure (some v) := ⟨.builtin "function.__call__", by rw [typeLookup_type, builtinLookup_eq_fast]; kernel_rfl⟩
theorem zdk : isSubtype (.type "str") (.type "bytearray") = pure false := by rw [isSubtype_type]; kernel_rfl
section
variable {prog : Program} {w : World} {A A₀ : Around} {E : VP} {s : Shared} {P C : Addr} {codes : Array Value} {a : Array Nat} {u : Tok}
theorem ziY {R : Result → Shared → Prop} (hp : PatAt s.heap P C codes) {lam : Addr} {ol : Obj} (hl : s.heap.get? lam = some ol) (hc : ol.cls = .type "function")
    (h : codeAny (model prog w) A₀ (.builtin "re.Pattern.sub.loop" ⟨[.ref P, .str ⟨a⟩ u, .ref lam, rawInt 1, rawInt 0, rawInt 0, rawInt 0, rawInt 0, .bool false, .ref s.heap.objs.size, .bool false], []⟩) R { s with heap := s.heap.push (lobj #[] 0) }) :
    wpAny (model prog w) A (Builtin.«re.Pattern.sub» ⟨[.ref P, .ref lam, .str ⟨a⟩ u], []⟩) (fun fin s' => match fin with | .done f => R (.ok f) s' | .again c' => c'.quiet = true ∧ codeAny (model prog w) A₀ c' R s') E s := by
  obtain ⟨hh, g, d, tk, os⟩ := s
  have hT : (⟨hh, g, d, tk, os⟩ : Shared).TypeIs (.ref lam) "function" := ⟨ol, hl, hc⟩
  obtain ⟨cv, f1⟩ := fn_call
  have f2 := zdk
  unfold Builtin.«re.Pattern.sub» reSubstitute
  repeat (any_goals (first | assumption | ((with_reducible show wpAny _ _ (reWholeTarget _ _) _ _ _); refine zht hp ?_) | wp_step))
  exact ⟨plainId_quiet zcL _, h⟩
end
end Mine
end MpZ4x
section
open PySem PySem.Builtin.Str PySem.W PySem.Calls PyProof.Rows
namespace Mine
noncomputable def TabXF (c Pt : Addr) (qs : List (Pos × PySem.Str)) (F : AP) (h : Heap) : Prop :=
  F c ∧ CodeHd h c Pt ∧ ∃ ps, h.get? Pt = some (tabObj ps) ∧ TriplesOk ps.toList ∧ ∀ pos q, (pos, q) ∈ qs → ∀ cv, codeAmong pos ps.toList = some cv → ∃ c', cv = .ref c' ∧ F c' ∧ h.CodeRec (.ref c') q
theorem TabXF.mono {c Pt : Addr} {qs : List (Pos × PySem.Str)} {F F' : AP} {h h' : Heap} (x : TabXF c Pt qs F h) (hF : ∀ a, F a → F' a) (hk : ∀ a o, F a ∨ a = Pt → h.get? a = some o → h'.get? a = some o) : TabXF c Pt qs F' h' := by
  obtain ⟨fc, ⟨o, vs, file, tf, flags, tg, inF, text, tt, e, r⟩, ps, g, ht, hq⟩ := x
  refine ⟨hF _ fc, ⟨o, vs, file, tf, flags, tg, inF, text, tt, hk _ _ (.inl fc) e, r⟩, ps, hk _ _ (.inr rfl) g, ht, fun pos q hm cv hc => ?_⟩
  obtain ⟨c', e', f', rec⟩ := hq pos q hm cv hc
  exact ⟨c', e', hF _ f', rec.at fun o e => hk _ o (.inl f') e⟩
theorem zdS {pos p2 : Pos} {c : Value} : ∀ {l : List Value}, TriplesOk l → (pos.line ≠ p2.line ∨ pos.col ≠ p2.col) → codeAmong pos (l ++ [rawInt p2.line, rawInt p2.col, c]) = codeAmong pos l
  | l, h, hne => by
    fun_induction TriplesOk l with
    | case1 =>
      simp only [List.nil_append, codeAmong, rawInt]
      rw [if_neg]
      intro hh
      simp only [Bool.and_eq_true, beq_iff_eq] at hh
      omega
    | case2 a t b u x rest ih =>
      simp only [List.cons_append, codeAmong]
      split
      · rfl
      · exact ih h
    | case3 l h1 h2 => exact h.elim
set_option genInjectivity false in
structure LamG (cx : XCx) where
  c : Addr
  Pt : Addr
  qs : List (Pos × PySem.Str)
  xf : cx.XF = TabXF c Pt qs
  xp : ∀ a, cx.X a ↔ a = Pt
  apart : qs.Pairwise fun a b => a.1.line ≠ b.1.line ∨ a.1.col ≠ b.1.col
  blt : cx.h0.BuiltinsAt cx.mg Pt
section
variable {cx : XCx} {ε : Sc}
theorem zgP {qs : List (Pos × PySem.Str)} (ap : qs.Pairwise fun a b => a.1.line ≠ b.1.line ∨ a.1.col ≠ b.1.col) {p1 p2 : Pos} {q1 q2 : PySem.Str} (h1 : (p1, q1) ∈ qs) (h2 : (p2, q2) ∈ qs) : (p1 = p2 ∧ q1 = q2) ∨ p1.line ≠ p2.line ∨ p1.col ≠ p2.col := by
  induction qs with
  | nil => cases h1
  | cons x r ih =>
    obtain ⟨a1, a2⟩ := List.pairwise_cons.mp ap
    rcases List.mem_cons.mp h1 with e1 | h1
    · rcases List.mem_cons.mp h2 with e2 | h2
      · rw [← e1] at e2; cases e2; exact .inl ⟨rfl, rfl⟩
      · have := a1 _ h2; rw [← e1] at this; exact .inr this
    · rcases List.mem_cons.mp h2 with e2 | h2
      · have := a1 _ h1; rw [← e2] at this; exact .inr (this.imp Ne.symm Ne.symm)
      · exact ih a2 h1 h2
theorem zli (G : LamG cx) {n cf A env F s ρ ad m cm} (H : Here cx ε n cf A env F s ρ ad m cm) {qual : PySem.Str} (hcode : ε.code = some (G.c, qual)) {params : Arguments} {body : Expr} {scope : Scope} {pos : Pos} (hdef : defaultsOf params env = ([], []))
    (hq : (pos, qual ++ "<lambda>") ∈ G.qs) (hcl : closureFor scope env = pure []) {Q E : VP}
    (hQ : ∀ F' s' lam c' ctv, Step cx F s F' s' → s.heap.get? lam = none → ¬ F' lam → s'.heap.get? lam = some (kla_obj "<lambda>" (qual ++ "<lambda>") params body scope [] ((cx.mg "__name__").getD .none) c' ctv) → F' c' → s'.heap.CodeRec (.ref c') (qual ++ "<lambda>") → Q (.ref lam) s') :
    wpAny (model cx.prog cx.w) A (eval (.Lambda params body scope pos) env) Q E s := by
  obtain ⟨hc, hqual⟩ := H.env.code _ _ hcode
  refine kla_eval hdef ?_
  rw [hqual]
  have hx : TabXF G.c G.Pt G.qs F s.heap := by have := H.wd.xi; rw [G.xf] at this; exact this
  obtain ⟨fc, hd, ps, g, ht, hqs⟩ := hx
  have hg := H.wd.glob H.ok
  have nP : ∀ {a o}, cx.h0.get? a = some o → a ≠ G.Pt → s.heap.get? a = some o := fun e h => H.wd.base _ _ e fun hx => h ((G.xp _).mp hx)
  have hgP : mainGlobals ≠ G.Pt := fun e => H.ok.gx ((G.xp _).mpr e)
  have hblt : s.heap.BuiltinsAt cx.mg G.Pt := by
    obtain ⟨bm, o, b1, b2, b3, b4, b5, r⟩ := G.blt
    exact ⟨bm, o, b1, b2, b3, b4, nP b5 b4, r⟩
  cases hca : codeAmong pos ps.toList with
  | none =>
    refine kla_makeFunction hcl H.env.glob hg hc hd g ht hca hgP hblt fun c' ctv h' tk hx hge hlt hrec htb => ?_
    have hXP : cx.X G.Pt := (G.xp _).mpr rfl
    have fP : ¬ F G.Pt := fun h => H.wd.nx _ h hXP
    have keep : ∀ a o, s.heap.get? a = some o → ¬ cx.X a → h'.get? a = some o := fun a o e nx => hx a o (fun e => nx ((G.xp _).mpr e)) e
    have frc : s.heap.get? c' = none := by
      cases e : s.heap.get? c' with
      | none => rfl
      | some o => exact absurd (Heap.lt_size e) (Nat.not_lt.mpr hge)
    have ndC : ¬ cx.X c' := H.wd.newNotX frc
    obtain ⟨c2, oc, vs, t, e2, goc, r⟩ := hrec
    cases e2
    let h3 : Heap := h'.push (kla_obj "<lambda>" (qual ++ "<lambda>") params body scope [] ((cx.mg "__name__").getD .none) c' ctv)
    have up : ∀ a o, h'.get? a = some o → h3.get? a = some o := fun a o e => Heap.get?_push_of_some _ e
    have frl : s.heap.get? h'.objs.size = none := by
      cases e : s.heap.get? h'.objs.size with
      | none => rfl
      | some o => exact absurd (Nat.lt_of_lt_of_le (Heap.lt_size e) (Nat.le_trans hge (Nat.le_of_lt hlt))) (Nat.lt_irrefl _)
    have rec3 : h3.CodeRec (.ref c') (qual ++ "<lambda>") := ⟨c', oc, vs, t, rfl, up _ _ goc, r⟩
    have st : Step cx F s (fun a => F a ∨ a = c') { s with heap := h3, toks := tk } := by
      refine ⟨fun _ h => .inl h, fun a h => h.imp (fun h => h) (fun (e : a = c') => by rw [e]; exact frc), fun a o e nx => up _ _ (keep a o e nx), rfl, ⟨fun a o e nx => up _ _ (keep a o (H.wd.base a o e nx) nx), ?_, H.wd.gens, fun a o e nx => .inl (H.wd.f0 a o e nx), fun a h => ?_, fun a h => h.elim (H.wd.nx a) (fun (e : a = c') => by rw [e]; exact ndC), fun a h => ?_⟩⟩
      · rw [G.xf]
        refine ⟨.inl fc, ?_, _, up _ _ htb, ?_, fun p q hm cv hcv => ?_⟩
        · obtain ⟨o, vs, file, tf, flags, tg, inF, text, tt, e, r⟩ := hd
          exact ⟨o, vs, file, tf, flags, tg, inF, text, tt, up _ _ (keep _ _ e (H.wd.nx _ fc)), r⟩
        · have := TriplesOk_snoc pos.line pos.col (.ref c') ps.toList ht
          simpa using this
        · have ea : (ps ++ #[rawInt pos.line, rawInt pos.col, .ref c']).toList = ps.toList ++ [rawInt pos.line, rawInt pos.col, .ref c'] := by simp
          rw [ea] at hcv
          rcases zgP G.apart hm hq with ⟨rfl, rfl⟩ | hne
          · rw [codeAmong_snoc _ ht hca] at hcv
            cases hcv
            exact ⟨c', rfl, .inr rfl, rec3⟩
          · rw [zdS ht hne] at hcv
            obtain ⟨c4, e4, f4, r4⟩ := hqs p q hm cv hcv
            exact ⟨c4, e4, .inl f4, r4.at fun o e => up _ _ (keep _ _ e (H.wd.nx _ f4))⟩
      · rcases h with h | h
        · obtain ⟨o, e⟩ := H.wd.lt a h
          exact ⟨o, up _ _ (keep a o e (H.wd.nx a h))⟩
        · subst h; exact ⟨oc, up _ _ goc⟩
      · rw [(G.xp a).mp h]; exact ⟨_, up _ _ htb⟩
    refine hQ _ _ _ c' ctv st frl (fun h => ?_) (Heap.get?_push_size _ rfl) (.inr rfl) rec3
    rcases h with h | h
    · obtain ⟨o, e⟩ := H.wd.lt _ h
      rw [frl] at e; cases e
    · rw [← h] at hlt; exact absurd hlt (Nat.lt_irrefl _)
  | some cv =>
    obtain ⟨c', rfl, fc', rec⟩ := hqs pos _ hq cv hca
    refine kla_makeFunctionHit hcl H.env.glob hg hc hd g ht hca hblt fun ctv h' tk hk hsz => ?_
    have up : ∀ a o, s.heap.get? a = some o → (h'.push (kla_obj "<lambda>" (qual ++ "<lambda>") params body scope [] ((cx.mg "__name__").getD .none) c' ctv)).get? a = some o := fun a o e => Heap.get?_push_of_some _ (hk a o e)
    have frl : s.heap.get? h'.objs.size = none := by
      cases e : s.heap.get? h'.objs.size with
      | none => rfl
      | some o => exact absurd (Nat.lt_of_lt_of_le (Heap.lt_size e) hsz) (Nat.lt_irrefl _)
    refine hQ F _ _ c' ctv (Step.grown H.ok H.wd tk up) frl (H.wd.newNotF frl) (Heap.get?_push_size _ rfl) fc' (rec.at fun o e => up _ _ e)
end
section
variable {cx : XCx} {A : Around} {E : VP} {s : Shared} {Pa : Addr} {a : Array Nat} {u : Tok}
noncomputable def lamBody (k1 k2 k3 : Nat) (p1 p2 p3 p4 p5 p6 p7 p8 : Pos) : Expr :=
  .BinOp (.Constant (.str "\\") k1 p1) .Add (.BoolOp .Or [.Call (.Attribute (.Name "_m" p2) "group" p3) [.Constant (.int 1) k2 p4] [] p5, .Constant (.str "") k3 p6] p7) p8
end
noncomputable def lamParams (p : Pos) : Arguments := { posonlyargs := [], args := [{ arg := "_m", annotation := none, pos := p }], vararg := none, kwonlyargs := [], kw_defaults := [], kwarg := none, defaults := [] }
noncomputable def lamScope : Scope := { kind := .function, names := [("_m", .local)], isGenerator := false, isCoroutine := false }
section
variable {cx : XCx} {A : Around} {E : VP} {s : Shared} {Pa : Addr} {a : Array Nat} {u : Tok}
end
end Mine
end
section MpZ8x
open PySem PySem.Builtin.Str PySem.W PySem.Calls PyProof.Rows
namespace Mine
open PySem.Builtin PySem.Builtin.Re
noncomputable def failedB (m : Sre.M) : Bool := match m.outcome with | some .failed => true | _ => false
theorem ziE {m : Sre.M} (h : failedB m = true) : m.outcome = some .failed := by
  unfold failedB at h
  split at h
  · assumption
  · cases h
theorem zk9 : (noHit.all fun a => failedB ((Sre.forSearch reCode a.toArray 1 0 a.toArray.size false).runFor (4 * (0 + 1)))) = true := by decide +kernel
section
variable {prog : Program} {w : World} {A : Around} {s : Shared}
theorem zjT {args : Args} {R : Result → Shared → Prop}
    (h : wpAny (model prog w) A.in1 (Builtin.«re.Pattern.sub.loop» args) (fun fin s' => match fin with | .done f => R (.ok f) s' | .again c' => c'.quiet = true ∧ codeAny (model prog w) A c' R s') (fun e s' => R (.error e) s') s) :
    codeAny (model prog w) A (.builtin "re.Pattern.sub.loop" args) R s :=
  codeAny_builtin zeD (by rw [Around.under_plainId zcL _]; exact h)
theorem zjM {P C : Addr} {codes : Array Value} {a : Array Nat} {u : Tok} {lam : Addr} :
    MeetsIn prog w (Builtin.«re.Pattern.sub» ⟨[.ref P, .ref lam, .str ⟨a⟩ u], []⟩) (fun A R s => (PatAt s.heap P C codes ∧ ∃ ol, s.heap.get? lam = some ol ∧ ol.cls = .type "function") ∧
      codeAny (model prog w) A (.builtin "re.Pattern.sub.loop" ⟨[.ref P, .str ⟨a⟩ u, .ref lam, rawInt 1, rawInt 0, rawInt 0, rawInt 0, rawInt 0, .bool false, .ref s.heap.objs.size, .bool false], []⟩) R { s with heap := s.heap.push (lobj #[] 0) }) :=
  fun A R s hs => by
    obtain ⟨⟨hp, ol, hl, hc⟩, h⟩ := hs
    exact ziY (A := A.in1) (A₀ := A) hp hl hc h
theorem zkM {P C : Addr} {codes : Array Value} {a : List Nat} {u : Tok} (ha : noHit.contains a = true) (hp : PatAt s.heap P C codes) {lam : Addr} {ol : Obj} (hl : s.heap.get? lam = some ol) (hc : ol.cls = .type "function") {Q E : VP}
    (h : ∀ h' tk t, (∀ b o, s.heap.get? b = some o → h'.get? b = some o) → Q (.str ⟨a.toArray⟩ t) { s with heap := h', toks := tk }) :
    wpAny (model prog w) A (call (.builtin "re.Pattern.sub") [.ref P, .ref lam, .str ⟨a.toArray⟩ u]) Q E s := by
  have hT : s.TypeIs (.ref P) "re.Pattern" := by
    obtain ⟨x, t, u, v, w, y, e, _⟩ := hp.pat
    exact ⟨_, e, rfl⟩
  have hm : a ∈ noHit := by simpa using ha
  have hf := ziE (List.all_eq_true.mp zk9 a hm)
  have hlen : a.length ≤ 10 := by
    have : (noHit.all fun a => decide (a.length ≤ 10)) = true := by decide
    simpa using List.all_eq_true.mp this a hm
  refine call_meetsIn zdC hT zfI (zeH _ _ _) zjM ⟨⟨hp, ol, hl, hc⟩, zjT ?_⟩
  have hk : ∀ b o, s.heap.get? b = some o → (s.heap.push (lobj #[] 0)).get? b = some o := fun b o e => Heap.get?_push_of_some _ e
  have hnew : (s.heap.push (lobj #[] 0)).get? s.heap.objs.size = some (lobj (strValues []).toArray 0) := Heap.get?_push_size _ rfl
  refine zjS (n := 0) (done := 0) (start := 0) (ps := []) (kk := 0) (res := ⟨a.toArray⟩) (hp.keeps hk) hnew ⟨0, by decide, hf⟩ (by simp) (by rw [List.size_toArray]; omega) (by simp) ?_ fun h' tk t sb => ?_
  · cases a with
    | nil => rfl
    | cons c r =>
      rw [if_pos (by simp)]
      have e : (c :: r).toArray.extract 0 (c :: r).toArray.size = (c :: r).toArray := by simp
      rw [e]
      unfold Txt.join
      have := zeY [] [c :: r]
      simpa [joinL, Str.empty] using this
  · refine h h' tk t fun b o e => (sb.2 b (Nat.ne_of_lt (Heap.lt_size e))).trans (hk b o e)
end
end Mine
end MpZ8x
section MpZ9x
open PySem PySem.Builtin.Str PySem.W PySem.Calls PyProof.Rows
namespace Mine
open PySem.Builtin PySem.Builtin.Re
section
variable {cx : XCx} {A : Around} {s : Shared}
end
end Mine
end MpZ9x
section
open PySem PySem.Builtin.Str PySem.W PySem.Calls PyProof.Rows
namespace Mine
set_option genInjectivity false in
structure PatG (cx : XCx) where
  P : Addr
  C : Addr
  codes : Array Value
  nP : ¬ cx.X P
  nC : ¬ cx.X C
  at0 : PatAt cx.h0 P C codes
theorem PatG.at {cx : XCx} (G : PatG cx) {F : AP} {s : Shared} (w : Wd cx F s) : PatAt s.heap G.P G.C G.codes := by
  obtain ⟨⟨a, t, u, v, w', y, e, r⟩, ⟨n, ec⟩, is⟩ := G.at0
  exact ⟨⟨a, t, u, v, w', y, w.base _ _ e G.nP, r⟩, ⟨n, w.base _ _ ec G.nC⟩, is⟩
section
variable {cx : XCx} {ε : Sc}
theorem zf6 (G : LamG cx) (PG : PatG cx) {x : PySem.Str} {p apos pos lp p0 : Pos} {e : Expr} {y : X} {qual : PySem.Str} {k1 k2 k3 : Nat} {p1 p2 p3 p4 p5 p6 p7 p8 : Pos} (hk : ε.kinds.lookup x = some .globalImplicit) (hv : cx.mg x = some (.ref PG.P)) (hd : (x == ("__debug__" : PySem.Str)) = false)
    (hcode : ε.code = some (G.c, qual)) (hq : (lp, qual ++ "<lambda>") ∈ G.qs) (hl : (apos.endLine == pos.line) = true) (hpl : (p3.endLine == p5.line) = true) (hst : starred e = false) (h : Sound cx ε e y) :
    Sound cx ε (.Call (.Attribute (.Name x p) "sub" apos) [.Lambda (lamParams p0) (lamBody k1 k2 k3 p1 p2 p3 p4 p5 p6 p7 p8) lamScope lp, e] [] pos) (.op .resub0 (.cons y .nil)) := by
  refine Sound.ofE ?_ fun _ => rfl
  intro n cf A env F s ρ ad m cm H res he Q E hQ
  obtain ⟨rs, e1, e2⟩ := ev_op he
  obtain ⟨r0, rs', e3, e4, rfl⟩ := zaJ e1
  cases zcp e4
  have hstL : starred (.Lambda (lamParams p0) (lamBody k1 k2 k3 p1 p2 p3 p4 p5 p6 p7 p8) lamScope lp) = false := rfl
  have hany : (backTo pos (starEach [.Lambda (lamParams p0) (lamBody k1 k2 k3 p1 p2 p3 p4 p5 p6 p7 p8) lamScope lp, e] env)).any (·.1) = false := by
    rw [zan hstL, zau, List.any_cons, zan hst, zau, List.any_cons]; rfl
  refine zdW rfl hl (by simp) hany ?_
  refine zb0 H hk hv hd ?_
  obtain ⟨px, pt, pu, pv, pw, py, pe, _⟩ := (PG.at H.wd).pat
  refine getMethod_builtin (T := "re.Pattern") ⟨_, pe, rfl⟩ zey zdC zfU (fun a e => ⟨_, by cases e; exact pe, rfl⟩) ?_
  refine Calls.callWith_builtin hany ?_
  rw [zan hstL, zau, zan hst, zau]
  have hcl : closureFor lamScope env = pure [] := closureFor_none (by intro y hy; simp [lamScope] at hy; subst hy; decide)
  refine Calls.evalArgs_plain (Calls.spliced_cons (zli G H hcode rfl hq hcl fun F1 s1 lam c' ctv st1 fr1 nf1 g1 fc1 rec1 => ?_))
  have H1 := H.step st1
  refine Calls.spliced_cons (h.ev n cf A env F1 s1 ρ ad m cm H1 r0 e3 _ _ fun v F2 s2 st2 q2 => Calls.spliced_nil ?_)
  show wpAny _ _ (call (.builtin "re.Pattern.sub") [.ref PG.P, .ref lam, v]) _ _ s2
  have nxl : ¬ cx.X lam := H.wd.newNotX fr1
  have g2 := st2.keep _ _ g1 nxl
  have rec2 := rec1.at fun o e => st2.keep _ o e (st1.wd.nx _ fc1)
  simp only [List.map_cons, List.map_nil] at e2; delta opF at e2; dsimp only at e2
  unfold opResub0 at e2
  split at e2
  · rename_i a ea
    have qb := q2.brep
    have ea' : r0.ds = .str a := by simpa using ea
    rw [ea'] at qb
    obtain ⟨t, rfl, pp, z⟩ := qb.str_inv
    have stt := st1.trans st2
    split at e2
    · rename_i hno
      cases e2
      refine zkM hno (PG.at st2.wd) g2 rfl fun h' tk t' hk' => ?_
      exact hQ _ F2 _ (stt.trans (Step.grown H.ok st2.wd tk hk')) (.val (.str t' pp z))
    · cases e2
  · cases e2
end
section
variable {M : Model} {A : Around} {E : VP} {s : Shared}
end
section
variable {cx : XCx} {A : Around} {E : VP} {s : Shared}
end
section
variable {cx : XCx} {A : Around} {E : VP} {s : Shared}
end
noncomputable def repX (i : Nat) (b1 c1 b2 c2 : List Nat) : X :=
  .op .replace (.cons (.op .replace (.cons (.var i) (.cons (.const (.str b1)) (.cons (.const (.str c1)) .nil)))) (.cons (.const (.str b2)) (.cons (.const (.str c2)) .nil)))
section
variable {cx : XCx} {ε : Sc}
end
end Mine
end
section

namespace Mine

end Mine
end
section
open PySem PySem.Builtin.Str PySem.W PySem.Calls PyProof.Rows
namespace Mine
theorem zf1 : ∀ {l : List D} {ls : List (List Nat)}, toStrs l = some ls → l = ls.map .str
  | [], ls, e => by cases e; rfl
  | d :: r, ls, e => by
    cases d <;> simp only [toStrs] at e <;> try cases e
    obtain ⟨ls', e', rfl⟩ := Option.map_eq_some_iff.mp e
    rw [List.map_cons, ← zf1 e']
section
variable {cx : XCx} {ε : Sc}
end
end Mine
end
section
open PySem PySem.Calls PyProof.Rows PySem.Builtin.Str
namespace Mine
section
variable {cx : XCx} {ε : Sc}
theorem zaU {x : Str} {T : String} {pos : Pos} (hk : ε.kinds.lookup x = some .globalImplicit) (hg : cx.mg x = none) (hn : x ≠ "__name__") (hv : bootBuiltins x = some (.type T)) (hd : (x == ("__debug__" : Str)) = false) : Sound cx ε (.Name x pos) (.const (.ty T)) := by
  refine Sound.ofE ?_ fun _ => rfl
  intro n cf A env F s ρ ad m cm H r hr Q E hQ
  replace hr := (zaE _).symm.trans hr
  cases hr
  exact zaK H hk hg hn hv hd (hQ _ F s (Step.refl H.wd) (.val (.ty T)))
noncomputable abbrev dead : S := .assert (.const (.bool false))
theorem ex_dead {cf : CfT} {ρ : List Slot} : ex cf dead ρ = none := rfl
theorem zbf {sts : List Stmt} : SoundSs cx ε sts dead := by
  intro n cf A env F s ρ ad m cm H ρ' o h
  rw [ex_dead] at h; cases h
theorem zfg {f : PySem.Str → PySem.Str → R} : ∀ d ds r, opStr2 f (d :: ds) = some r → ∃ l, d = .str l := by
  intro d ds r h
  obtain ⟨a, b, e, h⟩ := zcP (show two _ (d :: ds) = some r from h)
  obtain ⟨a, e2, _⟩ := Option.bind_eq_some_iff.mp h
  cases e
  exact ⟨a, zbw e2⟩
theorem zg4 : ∀ d ds r, opReplace (d :: ds) = some r → ∃ l, d = .str l := by
  intro d ds r h
  obtain ⟨a, b, c, e, _⟩ := zhz h
  cases e
  exact ⟨a, rfl⟩
theorem zll : ∀ d ds r, opJoin (d :: ds) = some r → ∃ l, d = .str l := by
  intro d ds r h
  cases d <;> first | exact ⟨_, rfl⟩ | cases h
theorem zi4 : ∀ d ds r, opSplit (d :: ds) = some r → ∃ l, d = .str l := by
  intro d ds r h
  cases d <;> first | exact ⟨_, rfl⟩ | cases h
section
variable {o : Expr} {apos pos : Pos} {es : List Expr} {xo x : X}
theorem m_rfind (hl : (apos.endLine == pos.line) = true) (hb : plainBase o = true) (hn : es.length < 30) (h0 : Sound cx ε o xo) (h : SoundL cx ε es x false) : Sound cx ε (.Call (.Attribute o "rfind" apos) es [] pos) (.op .rfind (.cons xo x)) :=
  zaZ hb hl hn PySem.F.slot_str_rfind rfl h0 h (by intro d ds r h; delta opF at h; dsimp only at h; exact zfg d ds r h) zk0
theorem zgl (hl : (apos.endLine == pos.line) = true) (hb : plainBase o = true) (hn : es.length < 30) (h0 : Sound cx ε o xo) (h : SoundL cx ε es x false) : Sound cx ε (.Call (.Attribute o "startswith" apos) es [] pos) (.op .startswith (.cons xo x)) :=
  zaZ hb hl hn PySem.F.slot_str_startswith rfl h0 h (by intro d ds r h; delta opF at h; dsimp only at h; exact zfg d ds r h) zfq
theorem zhI (hl : (apos.endLine == pos.line) = true) (hb : plainBase o = true) (hn : es.length < 30) (h0 : Sound cx ε o xo) (h : SoundL cx ε es x false) : Sound cx ε (.Call (.Attribute o "rstrip" apos) es [] pos) (.op .rstrip (.cons xo x)) :=
  zaZ hb hl hn PySem.F.slot_str_rstrip rfl h0 h (by intro d ds r h; delta opF at h; dsimp only at h; exact zfg d ds r h) zjr
theorem zjP (hl : (apos.endLine == pos.line) = true) (hb : plainBase o = true) (hn : es.length < 30) (h0 : Sound cx ε o xo) (h : SoundL cx ε es x false) : Sound cx ε (.Call (.Attribute o "replace" apos) es [] pos) (.op .replace (.cons xo x)) :=
  zaZ hb hl hn PySem.F.slot_str_replace rfl h0 h (fun d ds r h => zg4 d ds r h) zio
theorem zlQ (hl : (apos.endLine == pos.line) = true) (hb : plainBase o = true) (hn : es.length < 30) (h0 : Sound cx ε o xo) (h : SoundL cx ε es x false) : Sound cx ε (.Call (.Attribute o "join" apos) es [] pos) (.op .join (.cons xo x)) :=
  zaZ hb hl hn PySem.F.slot_str_join rfl h0 h (fun d ds r h => zll d ds r h) op_join
theorem m_split (hl : (apos.endLine == pos.line) = true) (hb : plainBase o = true) (hn : es.length < 30) (h0 : Sound cx ε o xo) (h : SoundL cx ε es x false) : Sound cx ε (.Call (.Attribute o "split" apos) es [] pos) (.op .split (.cons xo x)) :=
  zaZ hb hl hn PySem.F.slot_str_split rfl h0 h (fun d ds r h => zi4 d ds r h) zkZ
end
end
noncomputable def nthBody (p : Program) (n : Nat) : List Stmt := match p.main.body[n]? with
  | some (.FunctionDef _ _ b _ _ _ _ _ _ _) => b
  | _ => []
set_option genInjectivity false in
structure GN (cx : XCx) (fs : List (Str × Nat)) (bs : List Str) : Prop where
  f : ∀ x i, (x, i) ∈ fs → cx.mg x = some (.ref (cx.fa i))
  b : ∀ x, x ∈ bs → cx.mg x = none
theorem GN.fi {cx : XCx} {fs : List (Str × Nat)} {bs : List Str} (N : GN cx fs bs) (i : Nat) {x : Str} {a : Nat} (h : fs[i]? = some (x, a)) : cx.mg x = some (.ref (cx.fa a)) := N.f _ _ (List.mem_of_getElem? h)
theorem GN.bi {cx : XCx} {fs : List (Str × Nat)} {bs : List Str} (N : GN cx fs bs) (i : Nat) {x : Str} (h : bs[i]? = some x) : cx.mg x = none := N.b _ (List.mem_of_getElem? h)
theorem nfree {ks : List (Str × NameKind)} {x : Str} {k : NameKind} (h : ks.lookup x = some k) (hk : k ≠ .free := by decide) : ks.lookup x ≠ some .free := by
  rw [h]; intro e; cases e; exact hk rfl
theorem zbB {is : List Nat} (h : is.length = 1 := by rfl) : ∀ d ds, one1 d = some ds → ds.length = is.length := by
  intro d ds e; cases e; exact h.symm
noncomputable def compOKb (ε : Sc) (scope : Scope) (xs : List Str) (is : List Nat) : Bool :=
  (scope.kind == .function) && scope.names.all (fun y => y.2 != .cell) && scope.names.all (fun y => y.2 != .local || scope.names.lookup y.1 == some .local) && xs.all (fun x => scope.names.lookup x == some .local)
    && scope.names.all (fun y => y.2 != .free || ((ε.vars.lookup y.1).isSome && ε.kinds.lookup y.1 != some .local)) && ε.vars.all (fun y => !is.contains y.2) && decide xs.Nodup && decide is.Nodup && decide (xs.length = is.length)
theorem zaX {ε : Sc} {scope : Scope} {xs : List Str} {is : List Nat} (h : compOKb ε scope xs is = true) : CompOK ε scope xs is := by
  unfold compOKb at h
  simp only [Bool.and_eq_true, decide_eq_true_eq, List.all_eq_true, Bool.or_eq_true, bne_iff_ne, beq_iff_eq, Bool.not_eq_true', ne_eq] at h
  obtain ⟨⟨⟨⟨⟨⟨⟨⟨h1, h2⟩, h3⟩, h4⟩, h5⟩, h6⟩, h7⟩, h8⟩, h9⟩ := h
  refine ⟨h1, h2, fun y hy e => (h3 y hy).elim (fun q => absurd e q) id, h4, fun y k hy e => ?_, fun y j hj hm => ?_, h7, h8, h9⟩
  · rcases h5 (y, k) hy with q | ⟨q1, q2⟩
    · exact absurd e q
    · exact ⟨Option.isSome_iff_exists.mp q1, q2⟩
  · have := h6 (y, j) (zaQ hj)
    rw [List.contains_iff_mem.mpr hm] at this
    cases this
theorem zlG {x : Str} {p : Pos} : (Expr.Name x p).pos = p := rfl
theorem pos_lc {e : Expr} {g : List Comprehension} {c : Scope} {p : Pos} : (Expr.ListComp e g c p).pos = p := rfl
theorem pos_tu {l : List Expr} {k : Nat} {p : Pos} : (Expr.Tuple l k p).pos = p := rfl
theorem kindOf_ε {env : Env} {ks : List (Str × NameKind)} (h : env.scope.names = ks) (x : Str) : env.kindOf x = ks.lookup x := by unfold Env.kindOf; rw [h]
theorem swapC {ks : List (Str × NameKind)} {elt : Expr} {gens : List Comprehension} {scope : Scope} {pos py : Pos} {y : Str} {line : Nat} (hk : ks.lookup y = some .local) (hp : (py.line == pos.line) = true) (ha : (scope.names.any fun (n, k) => n == y && (k == .local || k == .cell)) = false) :
    ∀ env : Env, env.scope.kind = .function → env.scope.names = ks → swapsWith (.ListComp elt gens scope pos) (some (.Name y py)) line env = pure true := by
  intro env h1 h2
  unfold swapsWith
  have hb : (env.blockKind == .function) = true := by unfold Env.blockKind; rw [h1]; rfl
  simp only [kindOf_ε h2, hk, hb, zlG, pos_lc, hp, ha]
  rfl
theorem zkL {ks : List (Str × NameKind)} {x y : Str} {p p' pos' posv : Pos} {k kv : Nat} {v1 v2 : Expr} (hx : ks.lookup x = some .local) (hy : ks.lookup y = some .local) (hp : (p'.line == p.line) = true)
    (hs1 : starred v1 = false) (hs2 : starred v2 = false) (hd : ([x, y].eraseDups.length != 2) = false) (hf : [v1, v2].all (foldedForSure 8) = false) (hc : [v1, v2].all (constantsAlone 8) = false) :
    ∀ env : Env, env.scope.kind = .function → env.scope.names = ks → swappedStores [.Tuple [.Name x p, .Name y p'] k pos'] (.Tuple [v1, v2] kv posv) env = pure (some [x, y]) := by
  intro env h1 h2
  have hb : (env.blockKind != .function) = false := by unfold Env.blockKind; rw [h1]; rfl
  unfold swappedStores
  have hp0 : (p.line == p.line) = true := beq_self_eq_true _
  have el : ((some NameKind.local : Option NameKind) == some NameKind.local) = true := rfl
  have hst : ∀ v : Expr, starred v = false → (match v with | .Starred .. => true | _ => false) = false := fun v h => by
    cases v <;> first | rfl | cases h
  simp only [List.length_cons, List.length_nil, List.head?_cons, Option.map_some, Option.getD_some, zlG, pos_tu, List.filterMap_cons, List.filterMap_nil, kindOf_ε h2, hx, hy, hp, hp0, el, Bool.and_self, if_true, hb, hf, hc, Bool.or_false]
  simp only [Nat.zero_add, Nat.reduceAdd, hd]
  have h3 : ([v1, v2].any fun x => match x with | .Starred .. => true | _ => false) = false := by
    simp only [List.any_cons, List.any_nil, Bool.or_false, hst v1 hs1, hst v2 hs2]
  exact (if_neg Bool.false_ne_true).trans ((if_neg fun q => Bool.false_ne_true (h3.symm.trans q)).trans rfl)
end Mine
end
section
open PySem PySem.Calls PyProof.Rows PySem.Builtin.Str PySem.W
namespace Mine
section
variable {cx : XCx}
theorem len1 {P : List Value → Prop} (h : ∀ a, P [a]) (vs : List Value) (e : vs.length = 1) : P vs := by
  obtain ⟨a, rfl⟩ := List.length_eq_one_iff.mp e
  exact h a
theorem len2 {P : List Value → Prop} (h : ∀ a b, P [a, b]) (vs : List Value) (e : vs.length = 2) : P vs := by
  cases vs with
  | nil => cases e
  | cons a t => exact len1 (P := fun t => P (a :: t)) (h a) t (Nat.succ.inj e)
theorem len3 {P : List Value → Prop} (h : ∀ a b c, P [a, b, c]) (vs : List Value) (e : vs.length = 3) : P vs := by
  cases vs with
  | nil => cases e
  | cons a t => exact len2 (P := fun t => P (a :: t)) (h a) t (Nat.succ.inj e)
theorem zat {fd : FuncData} {fn : Fn} {ps : List Str} (hva : fn.va = false) (h : ∀ vs : List Value, vs.length = fn.np → bindArgs fd ⟨vs, []⟩ = pure (ps.zip vs)) : BindOK cx fd fn ps := by
  intro A F s vs args ds ok w q hb Q E hQ
  unfold boundTo at hb
  rw [hva] at hb
  simp only [Bool.false_eq_true, if_false] at hb
  split at hb <;> cases hb
  rename_i hl
  rw [h vs (q.length.trans hl)]
  exact wpAny_pure (hQ F s vs (Step.refl w) q)
end
noncomputable def fnOKb (ε : Sc) (fn : Fn) (ps : List Str) : Bool :=
  decide (ps.length = fn.np + (if fn.va then 1 else 0)) && decide ps.Nodup && (ps.zipIdx.all fun y => ε.vars.lookup y.1 == some y.2) && (ε.vars.all fun y => ε.kinds.lookup y.1 == some .local || ε.kinds.lookup y.1 == some .cell) && decide (ε.vars.map (·.2)).Nodup
theorem zjz {l : List (Str × Nat)} (h : (l.map (·.2)).Nodup) {x y : Str} {i : Nat} (h1 : (x, i) ∈ l) (h2 : (y, i) ∈ l) : x = y := by
  induction l with
  | nil => cases h1
  | cons z r ih =>
    rw [List.map_cons] at h
    obtain ⟨n1, n2⟩ := List.nodup_cons.mp h
    rcases List.mem_cons.mp h1 with e1 | h1
    · rcases List.mem_cons.mp h2 with e2 | h2
      · rw [← e2] at e1; exact congrArg Prod.fst e1
      · exact (n1 (List.mem_map.mpr ⟨_, h2, by rw [← e1]⟩)).elim
    · rcases List.mem_cons.mp h2 with e2 | h2
      · exact (n1 (List.mem_map.mpr ⟨_, h1, by rw [← e2]⟩)).elim
      · exact ih n2 h1 h2
theorem FnIs.ofK {cx : XCx} {K : Frag} (X : K.In cx.h0) {ε : Sc} {i : Nat} {a : Addr} {fn : Fn} {body : List Stmt} {ps : List Str} {oc : Value} {od : Option Addr} {osl : Array (Option Value)} {name : Str} {params : Arguments} {scope : Scope} {dV kV doc pm ct : Value} {c : Addr} {an : Option Addr}
    (ha : cx.fa i = a) (nx : ¬ cx.X a) (ho : K.lookup a = some ⟨oc, od, .func (fnOf name name params body scope dV kV doc pm an (.ref c) ct), osl⟩) (hcd : codeIn K (.ref c) name = true) (ncx : ¬ cx.X c) (hc : ∀ c' q, ε.code = some (c', q) → (.ref c : Value) = .ref c' ∧ name ++ ".<locals>." = q)
    (hb : BindOK cx (fnOf name name params body scope dV kV doc pm an (.ref c) ct) fn ps) (names : scope.names = ε.kinds) (co : scope.isCoroutine = false) (gen : scope.isGenerator = false) (kind : scope.kind = .function) (h : fnOKb ε fn ps = true) :
    FnIs cx ε i fn (fnOf name name params body scope dV kV doc pm an (.ref c) ct) body ps := by
  unfold fnOKb at h
  simp only [Bool.and_eq_true, decide_eq_true_eq, List.all_eq_true, Bool.or_eq_true, beq_iff_eq] at h
  obtain ⟨⟨⟨⟨h1, h2⟩, h3⟩, h4⟩, h5⟩ := h
  refine ⟨⟨_, by rw [ha]; exact X _ _ ho, rfl⟩, by rw [ha]; exact nx, ⟨c, rfl, ncx, codeRec_of X hcd⟩, rfl, hc, rfl, rfl, rfl, co, gen, kind, names, hb, fun args ds e => ?_, h2, fun k x e => ?_, fun x j e => h4 (x, j) (zaQ e), ⟨fun x y i ex ey => zjz h5 (zaQ ex) (zaQ ey)⟩⟩
  · unfold boundTo at e
    split at e
    · rename_i hva
      split at e <;> cases e
      rename_i hl
      rw [h1, if_pos hva, List.length_append, List.length_take, List.length_singleton, Nat.min_eq_left hl.1]
    · rename_i hva
      split at e <;> cases e
      rename_i hl
      rw [h1, if_neg hva, hl]; rfl
  · have : (x, k) ∈ ps.zipIdx := List.mem_zipIdx_iff_getElem?.mpr (by simpa using e)
    exact h3 _ this
noncomputable abbrev mkCx (prog : Program) (w : World) (h₁ : Heap) (c P : Addr) (qs : List (Pos × PySem.Str)) (mg mb : SV) (fa : NAd) (T : NAd) : XCx :=
  { prog := prog, w := w, h0 := ghostOf h₁ [(c, P)], X := fun a => a = P, XI := fun _ => True, T := T, mg := mg, mb := mb, fa := fa, XF := TabXF c P qs }
section
variable {prog : Program} {w : World} {h₁ : Heap} {c P : Addr} {qs : List (Pos × PySem.Str)} {mg mb : SV} {fa : NAd} {p : Program} {loose : List Str} {mean : ExcName → Option Value} {K : Frag}
theorem ziC (c : Addr) : (ghostOf h₁ [(c, P)]).get? P = none := hideAll_none _ (by simp)
theorem zdY {a : Addr} {o : Obj} (e : (ghostOf h₁ [(c, P)]).get? a = some o) : a ≠ P := fun q => by rw [q, ziC c] at e; cases e
theorem zhQ {a : Addr} {o : Obj} (e : (ghostOf h₁ [(c, P)]).get? a = some o) : h₁.get? a = some o := of_hideAll _ e
theorem ns_at {h : Heap} {a : Addr} {m : SV} (x : h.Ns a m) : ∃ o, h.get? a = some o := let ⟨o, _, _, e, _⟩ := x; ⟨o, e⟩
theorem ziB (hT : TabsAt [(c, P)] h₁) (N : h₁.NoSeer) : (ghostOf h₁ [(c, P)]).NoSeer where
  statics := let ⟨mc, a, b⟩ := N.statics; ⟨mc, ghost_ns hT a, b⟩
  mods := let ⟨mc, a, b⟩ := N.mods; ⟨mc, ghost_ns hT a, b⟩
  imp := let ⟨mc, a, b⟩ := N.imp; ⟨mc, ghost_ns hT a, b⟩
  main := let ⟨mg, bm, ob, a, b, c, d, e⟩ := N.main; ⟨mg, bm, ob, ghost_ns hT a, b, ghost_get hT c (fun q => by rw [q] at d; cases d), d, e⟩
theorem ns_none {K : Frag} {h : Heap} {a : Addr} {m : SV} {n : Str} (X : K.In h) (G : h.Ns a m) (e : nsIn K a n = some none) : m n = none := by
  obtain ⟨o, es, ep, ho, hd, _, hf⟩ := G
  unfold nsIn at e
  split at e
  · rename_i c d es' n' sl q
    have := X _ _ q
    rw [ho] at this
    cases this
    cases hd
    split at e
    · cases e
    · rename_i he
      rw [← hf]
      unfold nsFind findBy
      rw [← Array.find?_toList, he]
      rfl
  · cases e
theorem cxOk_of (hT : TabsAt [(c, P)] h₁) (X : K.In (ghostOf h₁ [(c, P)])) (T1 : Top p loose mean mg mb h₁) (hi : importsNone p = true) (htree : prog.given.tree = none) (hnb : nsIn K cStatics sharingNotToldKey = some none) {T : NAd} (tinj : ∀ i j, T i = T j → i = j) :
    CxOk (mkCx prog w h₁ c P qs mg mb fa T) := by
  have nP : ∀ {a : Addr} {m : SV}, (ghostOf h₁ [(c, P)]).Ns a m → ¬ a = P := fun x => let ⟨_, e⟩ := ns_at x; zdY e
  have g := ghost_ns hT T1.g
  have b := ghost_ns hT T1.b
  obtain ⟨mc, s1, s2⟩ := T1.nolimit
  have s := ghost_ns hT s1
  exact ⟨fun F F' h h' x hF hk => x.mono hF hk, g, nP g, b, nP b, T1.builtins, ⟨mc, s, s2⟩, nP s, fun h hk => (ziB hT (T1.seer hi)).keeps fun a o e => hk a o e (zdY e), htree, ⟨mc, s, ns_none X s hnb⟩, tinj⟩
theorem wd_of (hT : TabsAt [(c, P)] h₁) {s : Shared} (hs : s.heap = h₁) (hg : s.gens = #[]) {T : NAd} : Wd (mkCx prog w h₁ c P qs mg mb fa T) (fun a => ∃ o, (ghostOf h₁ [(c, P)]).get? a = some o) s := by
  subst hs
  obtain ⟨hc, ht⟩ := hT _ List.mem_cons_self
  have C := (ghost_code hT).1
  refine ⟨fun a o e _ => zhQ e, ⟨?_, hc, #[], ht, trivial, fun pos q _ cv e => by cases e⟩, by rw [hg]; intro g h; simp at h, fun a o e _ => ⟨o, e⟩, fun a ⟨o, e⟩ => ⟨o, zhQ e⟩, fun a ⟨o, e⟩ => zdY e, fun a e => by subst e; exact ⟨_, ht⟩⟩
  obtain ⟨o, _, _, _, _, _, _, _, _, e, _⟩ := C
  exact ⟨o, e⟩
noncomputable def lamG_of (hT : TabsAt [(c, P)] h₁) (T1 : Top p loose mean mg mb h₁) {T : NAd} (hq : qs.Pairwise fun a b => a.1.line ≠ b.1.line ∨ a.1.col ≠ b.1.col) : LamG (mkCx prog w h₁ c P qs mg mb fa T) :=
  { c := c, Pt := P, qs := qs, xf := rfl, xp := fun _ => Iff.rfl, apart := hq, blt := by
      obtain ⟨bm, ob, b1, b2, b3, b4, b5, b6⟩ := T1.bmain
      have gb : (ghostOf h₁ [(c, P)]).get? bm = some ob := ghost_get hT b3 fun q => by rw [q] at b4; cases b4
      refine ⟨bm, ob, b1, b2, fun e => ?_, zdY gb, gb, b4, b5, b6⟩
      obtain ⟨o, es, ep, ho, hd, _⟩ := T1.g
      rw [e, ho] at b3
      cases b3
      rw [hd] at b6; cases b6 }
noncomputable def tabKeys (es : Array DictEntry) : Bool := es.toList.all fun e => match e.key with | .int k _ => e.hash == hashInt k | _ => false
noncomputable def tabVals (es : Array DictEntry) : Bool := (List.range 128).all fun c => match findBy Value.isInt es (c : Int) with
  | some (.str x _) => special.contains c && x == ⟨#[92, c]⟩
  | none => !special.contains c
  | _ => false
theorem tabG_of {cx : XCx} (X : K.In cx.h0) {d : Addr} {es : Array DictEntry} {n : Nat} (nx : ¬ cx.X d) (hl : K.lookup d = some ⟨.type "dict", none, .dict es n, #[]⟩) (sys : (d == sysModules) = false) (hk : tabKeys es = true) (hv : tabVals es = true) : ∃ G : TabG cx, G.d = d := by
  unfold tabKeys at hk
  rw [List.all_eq_true] at hk
  unfold tabVals at hv
  rw [List.all_eq_true] at hv
  refine ⟨{ d := d, f := fun k => findBy Value.isInt es k, nx := nx, hm := ⟨_, es, n, X _ _ hl, ⟨rfl, rfl, rfl⟩, rfl, fun e he => ?_, fun _ => rfl⟩, sys := sys, yes := fun c hc hs => ?_, no := fun c hc hs => ?_ }, rfl⟩
  · have := hk e (Array.mem_toList_iff.mpr he)
    split at this
    · rename_i k t e1
      exact ⟨k, by rw [e1]; simp [intKind, Value.isInt], (by simpa using this : e.hash = hashInt k)⟩
    · cases this
  · have := hv c (List.mem_range.mpr hc)
    split at this
    · rename_i x t e1
      simp only [Bool.and_eq_true, beq_iff_eq] at this
      exact ⟨t, by rw [e1, this.2]⟩
    · rw [hs] at this; cases this
    · cases this
  · have := hv c (List.mem_range.mpr hc)
    split at this
    · rw [hs] at this; cases this
    · assumption
    · cases this
end
section
variable {cx : XCx}
theorem zkx {ε : Sc} {i : Nat} {fn : Fn} {fd : FuncData} {body : List Stmt} {ps : List Str} (X : FnIs cx ε i fn fd body ps) (ok : CxOk cx) {n : Nat}
    {args : List D} {ρ : List Slot} (hb : bindD fn args = some ρ)
    {A : Around} {F : AP} {s : Shared} {vs : List Value} (bud : Bud (n + 1) A) (w : Wd cx F s) (q : RepL cx.T F s.heap vs args) {Rs : Result → Shared → Prop}
    (k : ∀ (A' : Around) (env : Env) (F₁ : AP) (s₂ : Shared) (m cm : SV) (Q : Flow → Shared → Prop) (E : VP), BudE n A' → Wd cx F₁ s₂ → s₂.os = s.os → Frm cx ε env F₁ s₂ ρ (fun _ => 0) m cm → (∀ v s', Rs (.ok (.ret v)) s' → Q (.ret v) s') →
      wpAny (model cx.prog cx.w) A' (execs body env) Q E s₂) : codeAny (model cx.prog cx.w) A (.call (.ref (cx.fa i)) ⟨vs, []⟩) Rs s := by
  obtain ⟨ob, g, hfd⟩ := X.obj
  obtain ⟨c, hcode, ncx, hcd⟩ := X.code
  obtain ⟨ds, kk, hbd, rfl⟩ := zel hb
  have hroom : A.depth < recursionLimit := Nat.lt_of_le_of_lt (Nat.le_add_right _ _) (Nat.lt_trans bud.dp (by decide))
  refine codeAny_call_function hroom (w.base _ _ g X.nx) hfd X.co X.gen X.body (by rw [hcode]; exact hcd.at fun o e => w.base _ o e ncx) ?_
  refine X.bind A.in1 F s vs args ds ok w q hbd _ _ fun F₁ s₁ vs' st₁ q₁ => ?_
  rw [X.clo]
  have hlen : ds.length = ps.length := X.len _ _ hbd
  have hvl : vs'.length = ps.length := q₁.length.trans hlen
  have kindOf : ∀ x, (callEnvC fd s₁.heap.objs.size (cx.fa i)).kindOf x = ε.kinds.lookup x := fun x => by show fd.scope.names.lookup x = _; rw [X.names]
  have inps : ∀ x ∈ ps, ∃ k, ps[k]? = some x := fun x hx => by
    obtain ⟨k, hk, e⟩ := List.mem_iff_getElem.mp hx
    exact ⟨k, by rw [List.getElem?_eq_getElem hk, e]⟩
  have hkind : ∀ x ∈ ps.zip vs', fd.scope.names.lookup x.1 = some .local ∨ (fd.scope.names.lookup x.1 = some .cell ∧ ((cellsFrom (s₁.heap.objs.size + 1) fd.scope.names []).lookup x.1).isSome = true) := by
    intro x hx
    obtain ⟨k, hk⟩ := inps x.1 (List.of_mem_zip hx).1
    rw [X.names]
    rcases X.vk x.1 k (X.pv k x.1 hk) with h | h
    · exact .inl h
    · exact .inr ⟨h, za3 (.inr (zaQ h))⟩
  refine wpAny_newFunctionEnv_cells X.kind hkind fun env hen s₂ ic => ?_
  have hen' : env = callEnvC fd s₁.heap.objs.size (cx.fa i) := hen
  subst hen'
  obtain ⟨h₂, tk₂, rfl⟩ := ic.toInCall.same
  have keep₂ := ic.toInCall.keep
  have st₂ : Step cx F₁ s₁ F₁ { s₁ with heap := h₂, toks := tk₂ } := Step.grown ok st₁.wd tk₂ keep₂
  have w₂ := st₂.wd
  refine ⟨w₂.lim ok, codeAny_func ?_⟩
  let E₀ : Env := callEnvC fd s₁.heap.objs.size (cx.fa i)
  let m₀ : Str → Option Value := bindL E₀.kindOf (ps.zip vs') fun _ => none
  let cm₀ : Str → Option Value := bindC E₀.kindOf (ps.zip vs') fun _ => none
  have frL : s₁.heap.get? s₁.heap.objs.size = none := zar _
  have frC : ∀ n c, E₀.cells.lookup n = some c → s₁.heap.get? c = none ∧ c ≠ s₁.heap.objs.size := fun n c hc => by
    have hlt : s₁.heap.objs.size < c := ic.above n c (mem_of_lookup hc)
    refine ⟨?_, Nat.ne_of_gt hlt⟩
    cases e : s₁.heap.get? c with
    | none => rfl
    | some o => exact absurd (Heap.lt_size e) (Nat.not_lt.mpr (Nat.le_of_lt hlt))
  have noOwn : ∀ j l, slotAt (ds.map Slot.val ++ List.replicate kk .unset) j ≠ .own l := fun j l e => by
    rw [zbI] at e
    split at e <;> cases e
  have fresh₀ : ∀ a, Mut E₀ (ds.map Slot.val ++ List.replicate kk .unset) (fun _ => 0) a → s₁.heap.get? a = none := fun a h => by
    rcases h with rfl | ⟨n, hn⟩ | ⟨j, l, hj, _⟩
    · exact frL
    · exact (frC n a hn).1
    · exact absurd hj (noOwn j l)
  have slots : ∀ x j, ε.vars.lookup x = some j → (ε.kinds.lookup x = some .local ∧ SlotRep cx F₁ h₂ (fun _ => 0) j (m₀ x) (slotAt (ds.map Slot.val ++ List.replicate kk .unset) j)) ∨
      ((ε.kinds.lookup x = some .cell ∨ ε.kinds.lookup x = some .free) ∧ (∃ c, E₀.cells.lookup x = some c) ∧ SlotRep cx F₁ h₂ (fun _ => 0) j (cm₀ x) (slotAt (ds.map Slot.val ++ List.replicate kk .unset) j)) := by
    intro x j hx
    have look : ∀ dj, ds[j]? = some dj → ps[j]? = some x ∧ ∃ v, vs'[j]? = some v ∧ Rep cx.T F₁ h₂ v dj := fun dj hj => by
      obtain ⟨v, hv, r⟩ := q₁.get hj
      have hlt : j < ps.length := by rw [← hlen]; exact (List.getElem?_eq_some_iff.mp hj).1
      have hp : ps[j]? = some ps[j] := List.getElem?_eq_getElem hlt
      have := X.sc.inj x ps[j] j hx (X.pv j _ hp)
      exact ⟨by rw [hp, this], v, hv, st₂.rep st₁.wd r⟩
    rw [zbI]
    rcases X.vk x j hx with hk | hk
    · left
      refine ⟨hk, ?_⟩
      split
      · rename_i dj hj
        obtain ⟨hp, v, hv, r⟩ := look dj hj
        have : m₀ x = some v := zfO (by rw [kindOf]; exact hk) X.nodup hp hv
        rw [this]
        exact .val r
      · exact .unset
    · right
      refine ⟨.inl hk, ?_, ?_⟩
      · refine Option.isSome_iff_exists.mp (za3 (.inr ?_))
        rw [X.names]
        exact zaQ hk
      · split
        · rename_i dj hj
          obtain ⟨hp, v, hv, r⟩ := look dj hj
          have : cm₀ x = some v := zfP (by rw [kindOf, hk]; intro e; cases e) X.nodup hp hv
          rw [this]
          exact .val r
        · exact .unset
  have fr : Frm cx ε E₀ F₁ { s₁ with heap := h₂, toks := tk₂ } (ds.map Slot.val ++ List.replicate kk .unset) (fun _ => 0) m₀ cm₀ := by
    refine ⟨⟨X.kind, X.names, X.glob, X.blt, X.codeAt, st₁.wd.newNotX frL, fun n c hc => st₁.wd.newNotX (frC n c hc).1, ic.toInCall.ns, ic.cell, slots⟩, st₁.wd.newNotF frL, fun n c hc => ⟨st₁.wd.newNotF (frC n c hc).1, (frC n c hc).2⟩, fun n n' c h h' => name_of_addr ic.apart (mem_of_lookup h) (mem_of_lookup h'), fun j _ l _ h => absurd h (noOwn j l), fun j l h => absurd h (noOwn j l)⟩
  have budE : BudE n (A.deeper E₀) := by
    obtain ⟨l, hl⟩ := bud.fs
    refine ⟨⟨bud.hd, zl3 bud.dp, zl0 bud.un, ⟨_, by show A.frames.map _ = _; rw [hl]; rfl⟩⟩, zl1 bud.un, E₀, l, by show A.frames.map _ = _; rw [hl]; rfl, X.gen, X.co, X.blt, X.glob⟩
  exact k (A.deeper E₀) E₀ F₁ _ m₀ cm₀ _ _ budE w₂ (st₁.os) fr fun v s' h => h
end
theorem repInts {T T' : NAd} {F F' : AP} {h : Heap} (hF : ∀ a, F a → F' a) {ns : List Int} : ∀ {vs : List Value}, RepL T F h vs (ns.map .int) → RepL T' F' h vs (ns.map .int) := by
  induction ns with
  | nil => intro vs q; cases q; exact .nil
  | cons i ns ih =>
    intro vs q
    cases q with
    | cons a r =>
      generalize hd : D.int i = d at a
      cases a <;> cases hd
      exact .cons (.int _ _) (ih r)
theorem zjj {T T' : NAd} {F F' : AP} {h : Heap} (hF : ∀ a, F a → F' a) {ns : List Int} {v : Value} (r : Rep T F h v (.list (ns.map .int))) : Rep T' F' h v (.list (ns.map .int)) := by
  cases r with
  | list f g z q => exact .list (hF _ f) g z (repInts hF q)
theorem Frm.retok {cx : XCx} {T' : NAd} {ε : Sc} {env : Env} {F : AP} {s : Shared} {ρ ρ' : List Slot} {ad : NAd} {m cm : SV} (ok : CxOk cx) (w : Wd cx F s) (f : Frm cx ε env F s ρ ad m cm)
    (h : ∀ j, (∃ k, slotAt ρ j = .own [.str (tokC k)] ∧ slotAt ρ' j = .val (.tok k) ∧ T' k = ad j) ∨ ((slotAt ρ j = .unset ∨ ∃ ns : List Int, slotAt ρ j = .val (.list (ns.map .int))) ∧ slotAt ρ' j = slotAt ρ j)) :
    Wd { cx with T := T' } (fun a => F a ∨ ∃ j l, slotAt ρ j = .own l ∧ a = ad j) s ∧ Frm { cx with T := T' } ε env (fun a => F a ∨ ∃ j l, slotAt ρ j = .own l ∧ a = ad j) s ρ' ad m cm := by
  have hsub : ∀ a, F a → (F a ∨ ∃ j l, slotAt ρ j = .own l ∧ a = ad j) := fun _ h => .inl h
  have noOwn : ∀ j l, slotAt ρ' j ≠ .own l := fun j l e => by
    rcases h j with ⟨k, _, e2, _⟩ | ⟨e1, e2⟩
    · rw [e2] at e; cases e
    · rw [e2] at e
      rcases e1 with e1 | ⟨ns, e1⟩ <;> rw [e1] at e <;> cases e
  have slots : ∀ j ov, SlotRep cx F s.heap ad j ov (slotAt ρ j) → SlotRep { cx with T := T' } (fun a => F a ∨ ∃ j l, slotAt ρ j = .own l ∧ a = ad j) s.heap ad j ov (slotAt ρ' j) := by
    intro j ov q
    rcases h j with ⟨k, e1, e2, e3⟩ | ⟨e1, e2⟩
    · rw [e2]
      generalize hsl : slotAt ρ j = sl at q
      rw [e1] at hsl
      subst hsl
      cases q with
      | dic _ _ _ _ q _ _ =>
        cases q
      | own nf nx g z q =>
        cases q with
        | cons q1 q2 =>
          cases q2
          cases q1 with
          | str t p z' =>
            rw [← e3]
            exact .val (Rep.tok (T := T') (k := k) fun _ => ⟨.inr ⟨j, _, e1, e3⟩, _, _, e3 ▸ g⟩)
    · rw [e2]
      rcases e1 with e1 | ⟨ns, e1⟩
      · rw [e1]; exact .unset
      · rw [e1] at q ⊢
        cases q with
        | val q => exact .val (zjj hsub q)
  refine ⟨⟨w.base, ok.xi _ _ _ _ w.xi hsub (fun _ _ _ e => e), w.gens, fun a o e nx => .inl (w.f0 a o e nx), fun a h => ?_, fun a h => ?_, w.xex⟩,
    ⟨⟨f.en.kind, f.en.names, f.en.glob, f.en.blt, f.en.code, f.en.lx, f.en.cxx, f.en.ns, f.en.cells, fun y j hy => (f.en.vars y j hy).imp (fun ⟨k, q⟩ => ⟨k, slots j _ q⟩) fun ⟨k, c, q⟩ => ⟨k, c, slots j _ q⟩⟩,
      fun h => ?_, fun n c hc => ⟨fun h => ?_, (f.cf n c hc).2⟩, f.cinj, fun i j l _ e => absurd e (noOwn i l), fun i l e => absurd e (noOwn i l)⟩⟩
  · rcases h with h | ⟨j, l, e, rfl⟩
    · exact w.lt a h
    · exact (f.own j l e).2.2.1
  · rcases h with h | ⟨j, l, e, rfl⟩
    · exact w.nx a h
    · exact (f.own j l e).2.1
  · rcases h with h | ⟨j, l, e, q⟩
    · exact f.lf h
    · exact (f.own j l e).2.2.2.1 q.symm
  · rcases h with h | ⟨j, l, e, q⟩
    · exact (f.cf n c hc).1 h
    · exact (f.own j l e).2.2.2.2 n (q ▸ hc)
noncomputable def tokA (a : Nat) (k : Nat) : Nat := if k = 0 then a else a + k
theorem zkK (a : Nat) : ∀ i j, tokA a i = tokA a j → i = j := by
  intro i j e
  unfold tokA at e
  split at e <;> split at e <;> omega
noncomputable abbrev XCx.withT (cx : XCx) (T : NAd) : XCx := { cx with T := T }
noncomputable def PlainRho (ρ : List Slot) : Prop := ∀ j, slotAt ρ j = .unset ∨ ∃ ns : List Int, slotAt ρ j = .val (.list (ns.map .int))
noncomputable def Inj (T : NAd) : Prop := ∀ i j, T i = T j → i = j
noncomputable abbrev newTok (i : Nat) (k : Nat) : S := .assignO i (.list (.cons (.const (.str (tokC k))) .nil))
theorem zkj {cf : CfT} {i k : Nat} {ρ : List Slot} (h : noApp i ρ = true) (hd : dSlot i = false) : ex cf (newTok i k) ρ = some (ρ.set i (.own [.str (tokC k)]), .next) := by
  unfold newTok
  rw [zcV, h, if_pos rfl]
  exact if_neg (by rw [hd]; exact Bool.false_ne_true)
theorem zlh {cx : XCx} (hcx : ∀ T, Inj T → CxOk (cx.withT T)) {ε : Sc} {i i1 : Nat} {fn : Fn} {fd : FuncData} {st1 : Stmt} {rest : List Stmt} {ps : List Str} {sx : S} {n : Nat} {cf : CfT} (X : ∀ T, FnIs (cx.withT T) ε i fn fd (st1 :: rest) ps)
    (hc : ∀ T, Inj T → CallOK (cx.withT T) n cf) (h1 : ∀ T, SoundS (cx.withT T) ε st1 (newTok i1 0)) (hs : ∀ T, Inj T → SoundSs (cx.withT T) ε rest sx)
    {ns : List Int} {ρ ρ' : List Slot} (hb : bindD fn [.list (ns.map .int)] = some ρ) (hp : PlainRho ρ) (hn : noApp i1 ρ = true) (hl : i1 < ρ.length)
    (he : ex cf sx (ρ.set i1 (.val (.tok 0))) = some (ρ', .ret (.bool true)))
    {A : Around} {F : AP} {s : Shared} {v : Value} (bud : Bud (n + 1) A) (w : Wd cx F s) (q : Rep cx.T F s.heap v (.list (ns.map .int))) {Rs : Result → Shared → Prop}
    (hR : ∀ T F' s', Wd (cx.withT T) F' s' → s'.os = s.os → Rs (.ok (.ret (.bool true))) s') (hd1 : dSlot i1 = false := by rfl) : codeAny (model cx.prog cx.w) A (.call (.ref (cx.fa i)) ⟨[v], []⟩) Rs s := by
  have inj0 : Inj (fun k : Nat => (k : Addr)) := fun i j e => e
  have ok0 := hcx _ inj0
  have w0 : Wd (cx.withT fun k : Nat => (k : Addr)) F s := ⟨w.base, w.xi, w.gens, w.f0, w.lt, w.nx, w.xex⟩
  refine zkx (cx := cx.withT fun k : Nat => (k : Addr)) (X fun k : Nat => (k : Addr)) ok0 hb bud w0 (.cons (zjj (fun _ h => h) q) .nil) fun A' env F₁ s₂ m cm Q E budE w₂ os fr hQ => ?_
  refine wpAny_execs_cons ?_
  refine h1 (fun k : Nat => (k : Addr)) n cf A' env F₁ s₂ ρ _ m cm ⟨ok0, (X fun k : Nat => (k : Addr)).sc, hc _ inj0, budE, w₂, fr⟩ _ _ (zkj hn hd1) _ _ fun f F' s' ad' m' cm' x fr' out => ?_
  cases out
  let T1 : Nat → Addr := tokA (ad' i1)
  have inj1 : Inj T1 := zkK _
  have hset : ∀ j, slotAt (ρ.set i1 (.own [.str (tokC 0)])) j = if j = i1 then .own [.str (tokC 0)] else slotAt ρ j := fun j => by rw [zaP, if_pos hl]
  have hset' : ∀ j, slotAt (ρ.set i1 (.val (.tok 0))) j = if j = i1 then .val (.tok 0) else slotAt ρ j := fun j => by rw [zaP, if_pos hl]
  obtain ⟨w1, f1⟩ := fr'.retok (T' := T1) (ρ' := ρ.set i1 (.val (.tok 0))) ok0 x.wd fun j => by
    rw [hset, hset']
    by_cases hj : j = i1
    · subst hj
      rw [if_pos rfl, if_pos rfl]
      exact .inl ⟨0, rfl, rfl, rfl⟩
    · rw [if_neg hj, if_neg hj]
      exact .inr ⟨hp j, rfl⟩
  refine hs T1 inj1 n cf A' env _ s' _ ad' m' cm' ⟨hcx _ inj1, (X T1).sc, hc _ inj1, budE, w1, f1⟩ ρ' _ he _ _ fun f F'' s'' ad'' m'' cm'' x' fr'' out' => ?_
  cases out' with
  | ret r =>
    cases r
    exact hQ _ _ (hR T1 F'' s'' x'.wd (x'.os.trans (x.os.trans os)))
theorem zb2 {β : Type} {p : Nat → Bool} {x : Nat} {j : β} : ∀ {l : List (Nat × β)}, (l.filter fun y => p y.1).lookup x = some j → l.lookup x = some j ∧ p x = true
  | [], e => by cases e
  | (y, b) :: r, e => by
    rw [List.filter_cons] at e
    split at e
    · rename_i hp
      rw [List.lookup_cons] at e ⊢
      cases hx : x == y with
      | true =>
        rw [hx] at e
        exact ⟨e, by rw [beq_iff_eq.mp hx]; exact hp⟩
      | false =>
        rw [hx] at e
        exact zb2 e
    · rename_i hp
      obtain ⟨h1, h2⟩ := zb2 e
      refine ⟨?_, h2⟩
      rw [List.lookup_cons]
      cases hx : x == y with
      | true => rw [beq_iff_eq.mp hx] at h2; exact absurd h2 hp
      | false => exact h1
noncomputable abbrev dropK (P : Addr) (K : Frag) : Frag := K.filter fun y => (fun a : Nat => a != P) y.1
theorem zgt {K : Frag} {h₁ : Heap} {c P : Addr} (X : K.In h₁) : (dropK P K).In (ghostOf h₁ [(c, P)]) := fun a o e => by
  obtain ⟨h1, h2⟩ := zb2 (p := fun a : Nat => a != P) e
  exact hideAll_get _ (X a o h1) (by simpa using h2)
theorem gn_of {cx : XCx} {fs : List (Str × Nat)} {bs : List Str} (h1 : ∀ p ∈ fs, cx.mg p.1 = some (.ref (cx.fa p.2))) (h2 : ∀ x ∈ bs, cx.mg x = none) : GN cx fs bs := ⟨fun x i h => h1 (x, i) h, h2⟩
theorem zhN {T : NAd} {F : AP} {h : Heap} : ∀ {vs : List Value} {ns : List Int}, IntsAre vs ns → RepL T F h vs (ns.map .int)
  | _, _, .nil => .nil
  | _, _, .cons n t r => .cons (.int n t) (zhN r)
theorem zj5 {prog : Program} {w : World} {c P : Addr} {qs : List (Pos × PySem.Str)} {mg mb : SV} {fa : NAd} {T : NAd} {cw : ClaimW} {cl : Str → Option Addr} {mean : ExcName → Option Value} {args : List WData} {s₁ s' : Shared} {F' : AP}
    (hT : TabsAt [(c, P)] s₁.heap) (hr : ∀ x, cw.raises args x = false) (hp : cw.post args (.bool true) args = true) (wd : Wd (mkCx prog w s₁.heap c P qs mg mb fa T) F' s') (os : s'.os = s₁.os) : GoodWG cw cl mean args s₁ (.ok (.ret (.bool true))) s' := by
  obtain ⟨hc, ht⟩ := hT _ List.mem_cons_self
  obtain ⟨_, _, ps, hP, _⟩ := wd.xi
  refine ⟨.inl ⟨.bool true, .bool true, [], rfl, hr, .bool true, hp, fun _ => ⟨List.nodup_nil, fun a h => nomatch h⟩⟩, ⟨fun b o e => ?_, fun b o e => ?_⟩, os, wd.gens⟩
  · by_cases hb : b = P
    · subst hb
      have e2 : o = tabObj #[] := Option.some.inj (e.symm.trans ht)
      subst e2
      exact .inr (.inl ⟨(hc.tab ht).isCodeTable, rfl, #[], ps, rfl, by rw [Array.empty_append]; exact hP⟩)
    · exact .inl (wd.base b o (ghost_ne e (by simpa using hb)) hb)
  · by_cases hb : b = P
    · subst hb
      exact ⟨_, hP⟩
    · exact ⟨o, wd.base b o (ghost_ne e (by simpa using hb)) hb⟩
end Mine
end
section
open PySem PySem.Calls PyProof.Rows PySem.Builtin.Str
namespace Mine
section
variable {cx : XCx} {ε : Sc}
theorem zji {T : NAd} {F : AP} {h : Heap} : ∀ {vs : List Value} {ds : List D}, vs.length = ds.length → (∀ (i : Nat) v d, vs[i]? = some v → ds[i]? = some d → Rep T F h v d) → RepL T F h vs ds
  | [], [], _, _ => .nil
  | v :: vs, d :: ds, hl, hp => .cons (hp 0 v d rfl rfl) (zji (by simpa using hl) fun i v d h1 h2 => hp (i + 1) v d h1 h2)
  | [], _ :: _, hl, _ => by simp at hl
  | _ :: _, [], hl, _ => by simp at hl
theorem zfC {A : Around} (hh : A.handled = none) {F₀ F : AP} {s₀ s : Shared} (ok : CxOk cx) (st : Step cx F₀ s₀ F s) {r : Addr} {a b c : Int} {t u v : Tok} (hr : IsRange s.heap r a b c t u v) (hs : Builtin.Range.small a b c = true)
    {k : Nat} (hk : Builtin.Range.rangeSize a b c = (k : Int)) (hl : k ≤ lim) {Q E : VP} (hQ : Post cx F₀ s₀ (.own ((upTo k a c).map .int)) Q) : wpAny (model cx.prog cx.w) A (call (.type "list") [.ref r]) Q E s := by
  refine call_list_range hh hr hs hk (by unfold lim at hl; omega) fun h' tk acc c' keep hS hacc => ?_
  have hf : s.heap.get? s.heap.objs.size = none := zar _
  have st' := st.trans (Step.grown ok st.wd tk keep)
  have nx := st.wd.newNotX hf
  refine hQ _ _ _ st' (.own (n := c') (st.fresh nx hf) (st.wd.newNotF hf) nx (vs := acc.toList) (by simpa using hS) (by simp [hacc.1]; exact hl) (zji (by simp [hacc.1, upTo]) fun i v d h1 h2 => ?_))
  obtain ⟨tk', rfl⟩ := hacc.2 i v (by simpa using h1)
  have hi : i < k := by
    have := (List.getElem?_eq_some_iff.mp h1).1
    simpa [hacc.1] using this
  have : d = .int (a + i * c) := by
    unfold upTo at h2
    rw [List.map_map, List.getElem?_map, List.getElem?_range hi] at h2
    have := Option.some.inj h2
    rw [← this]
    show D.int (a + c * (i : Int)) = _
    rw [Int.mul_comm]
  rw [this]
  exact .int _ tk'
theorem ziu {A : Around} {n : Nat} (hb : BudE n A) {F₀ F : AP} {s₀ s : Shared} (ok : CxOk cx) (st : Step cx F₀ s₀ F s) {vs : List Value} {ds : List D} (q : BRepL cx F s.heap vs ds) {l : List D} (hl : opRange ds = some l)
    {Q E : VP} (hQ : Post cx F₀ s₀ (.own l) Q) :
    wpAny (model cx.prog cx.w) A (call (.type "range") vs) (fun v s₁ => wpAny (model cx.prog cx.w) A (call (.type "list") [v]) Q E s₁) E s :=
  zeR ok st q hl fun r a b c t u v k s' st' hr hs hk hl' e => zfC hb.hd ok st' hr hs hk hl' (e ▸ hQ)
theorem zch {p p' pos' pos : Pos} {es : List Expr} {x : X} (hk : ε.kinds.lookup ("list" : Str) = some .globalImplicit) (hg : cx.mg ("list" : Str) = none) (hk' : ε.kinds.lookup ("range" : Str) = some .globalImplicit) (hg' : cx.mg ("range" : Str) = none) (h : SoundL cx ε es x false) :
    Sound cx ε (.Call (.Name "list" p) [.Call (.Name "range" p') es [] pos'] [] pos) (.op .listOf (.cons (.rangeI x) .nil)) := by
  refine Sound.ofE ?_ fun _ => rfl
  intro n cf A env F s ρ ad m cm H res he Q E hQ
  obtain ⟨rs, e1, e2⟩ := ev_op he
  obtain ⟨r, rs', e3, e4, rfl⟩ := zaJ e1
  cases zcp e4
  obtain ⟨ds, l, e5, e6, rfl⟩ : ∃ ds l, ev cf x ρ = some ds ∧ opRange (ds.map R.ds) = some l ∧ r = .val (.list l) := by
    replace e3 := (zaD _).symm.trans e3
    split at e3
    · rename_i ds e
      obtain ⟨l, e7, e8⟩ := Option.map_eq_some_iff.mp e3
      cases e8
      exact ⟨ds, l, e, e7, rfl⟩
    · cases e3
  cases e2
  rw [zav (by intro _ _ _ e; cases e)]
  refine wb (zaK H hk hg (by decide) (v := .type "list") (by rfl) (by decide) ?_)
  rw [zan rfl, zau]
  refine PyProof.Rows.callWith_type rfl (Calls.evalArgs_plain (Calls.spliced_cons ?_))
  rw [zav (by intro _ _ _ e; cases e)]
  refine wb (zaK H hk' hg' (by decide) (v := .type "range") (by rfl) (by decide) ?_)
  refine PyProof.Rows.callWith_type (zaR h) (zaW h H e5 fun vs F' s' st q => ?_)
  refine wpAny_mono (ziu H.bud H.ok st q.brep e6 hQ) (fun v s₁ h₁ => ?_) fun _ _ x => x
  exact Calls.spliced_nil h₁
end
end Mine
end
section
open PySem PySem.Calls PyProof.Rows PySem.Builtin.Str PySem.SeqAt PySem.AutoSeq1 PySem.MeetsSeq PySem.MeetsSeq2 PySem.MeetsSeq3 PySem.SeqRoads2
namespace Mine
inductive StrVs : List Value → List (List Nat) → Prop
  | nil : StrVs [] []
  | cons {l : List Nat} {t : Tok} {vs : List Value} {ls : List (List Nat)} : StrVs vs ls → StrVs (.str ⟨l.toArray⟩ t :: vs) (l :: ls)
theorem zdZ {vs : List Value} {i : Nat} {v : Value} {r : List Value} (h : vs.drop i = v :: r) : vs.toArray[((i : Nat) : Int).toNat]? = some v ∧ vs.drop (i + 1) = r := by
  constructor
  · rw [Int.toNat_natCast, List.getElem?_toArray, ← Nat.add_zero i, ← List.getElem?_drop, h]; rfl
  · rw [← List.drop_drop, h]; rfl
theorem zdj {vs : List Value} {i : Nat} (h : vs.drop i = []) : vs.toArray[((i : Nat) : Int).toNat]? = none := by
  rw [Int.toNat_natCast, List.getElem?_toArray, List.getElem?_eq_none_iff]
  exact List.drop_eq_nil_iff.mp h
theorem zbu {vs : List Value} {i : Nat} {r : List Value} (h : vs.drop i = r) (hi : i ≤ vs.length) : vs.toArray.size = i + r.length := by
  have := congrArg List.length h
  rw [List.length_drop] at this
  rw [List.size_toArray, ← this, Nat.add_sub_cancel' hi]
theorem zkp (A : Around) (s : Shared) (a b : List Nat) (t u : Tok) : EqAt A s (.str ⟨a.toArray⟩ t) (.str ⟨b.toArray⟩ u) (decide (a = b)) := by
  have h := EqAt.str_str (A := A) (s := s) ⟨a.toArray⟩ t ⟨b.toArray⟩ u
  have e : ((⟨a.toArray⟩ : PySem.Str) == ⟨b.toArray⟩) = decide (a = b) := by
    by_cases q : a = b
    · subst q; simp
    · rw [decide_eq_false q, beq_eq_false_iff_ne]
      intro h; exact q (by simpa using h)
  rwa [e] at h
section
variable {l b : Addr} {vs ws : List Value} {n n2 : Nat}
theorem lt_loop : ∀ (xs ys : List (List Nat)) (i : Nat), StrVs (vs.drop i) xs → StrVs (ws.drop i) ys → i ≤ vs.length → i ≤ ws.length → Meets (Builtin.«list.__eq__.loop» ⟨[.ref l, .ref b, rawInt i, rawInt 0], []⟩)
    (fun A R s => s.heap.get? l = some (lobj vs.toArray n) ∧ s.heap.get? b = some (lobj ws.toArray n2) ∧ R (.ok (.ret (.bool (ltSs xs ys)))) s) := by
  intro xs
  induction xs with
  | nil =>
    intro ys i q1 q2 l1 l2 prog w A R s h
    obtain ⟨hp, g, d, tk, os⟩ := s; obtain ⟨hl, hb, h⟩ := h
    generalize e1 : vs.drop i = r1 at q1
    generalize e2 : ws.drop i = r2 at q2
    cases q1
    have z1 := zbu e1 l1
    have z2 := zbu e2 l2
    wp_walk using wpAny_loadPart' hl, wpAny_loadPart' hb
    rw [zdj e1]
    wp_walk using wpAny_loadPart' hl, wpAny_loadPart' hb
    show R (.ok (.ret (.bool (decide (vs.toArray.size < ws.toArray.size))))) _
    rw [z1, z2]
    cases q2 with
    | nil => rw [decide_eq_false (by simp)]; exact h
    | cons q2 => rw [decide_eq_true (by simp)]; exact h
  | cons x xs ih =>
    intro ys i q1 q2 l1 l2 prog w A R s h
    obtain ⟨hp, g, d, tk, os⟩ := s; obtain ⟨hl, hb, h⟩ := h
    generalize e1 : vs.drop i = r1 at q1
    generalize e2 : ws.drop i = r2 at q2
    cases q1 with | cons q1 =>
    have z1 := zbu e1 l1
    have z2 := zbu e2 l2
    obtain ⟨g1, e1'⟩ := zdZ e1
    cases q2 with
    | nil =>
      wp_walk using wpAny_loadPart' hl, wpAny_loadPart' hb
      rw [g1, zdj e2]
      wp_walk using wpAny_loadPart' hl, wpAny_loadPart' hb
      show R (.ok (.ret (.bool (decide (vs.toArray.size < ws.toArray.size))))) _
      rw [z1, z2, decide_eq_false (by simp)]
      exact h
    | cons q2 =>
      obtain ⟨g2, e2'⟩ := zdZ e2
      wp_walk using wpAny_loadPart' hl, wpAny_loadPart' hb
      rw [g1, g2]
      refine wb (zkp _ _ _ _ _ _ prog w _ _ ?_)
      have hc : ((i : Int) + 1) = ((i + 1 : Nat) : Int) := by push_cast; rfl
      unfold ltSs at h
      rename_i y _ _ _
      by_cases hxy : x = y
      · rw [if_pos hxy] at h
        rw [decide_eq_true hxy]
        wp_walk
        rw [hc]
        refine ⟨plainId_quiet plain_eq_loop _, codeAny_builtin entry_eq_loop ?_⟩
        rw [Around.under_plainId plain_eq_loop _]
        rw [List.length_cons, List.size_toArray] at z1 z2
        exact ih _ (i + 1) (e1' ▸ q1) (e2' ▸ q2) (z1 ▸ Nat.add_le_add_left (Nat.succ_le_succ (Nat.zero_le _)) i) (z2 ▸ Nat.add_le_add_left (Nat.succ_le_succ (Nat.zero_le _)) i) prog w A R _ ⟨hl, hb, h⟩
      · rw [if_neg hxy] at h
        rw [decide_eq_false hxy]
        wp_walk using wpAny_loadPart' hl, wpAny_loadPart' hb
        rw [g1, g2]
        refine wb ?_
        exact P.lt_str (wpAny_pure h)
theorem gt_loop : ∀ (xs ys : List (List Nat)) (i : Nat), StrVs (vs.drop i) xs → StrVs (ws.drop i) ys → i ≤ vs.length → i ≤ ws.length → Meets (Builtin.«list.__eq__.loop» ⟨[.ref l, .ref b, rawInt i, rawInt 4], []⟩)
    (fun A R s => s.heap.get? l = some (lobj vs.toArray n) ∧ s.heap.get? b = some (lobj ws.toArray n2) ∧ R (.ok (.ret (.bool (ltSs ys xs)))) s) := by
  intro xs
  induction xs with
  | nil =>
    intro ys i q1 q2 l1 l2 prog w A R s h
    obtain ⟨hp, g, d, tk, os⟩ := s; obtain ⟨hl, hb, h⟩ := h
    generalize e1 : vs.drop i = r1 at q1
    generalize e2 : ws.drop i = r2 at q2
    cases q1
    have z1 := zbu e1 l1
    have z2 := zbu e2 l2
    wp_walk using wpAny_loadPart' hl, wpAny_loadPart' hb
    rw [zdj e1]
    wp_walk using wpAny_loadPart' hl, wpAny_loadPart' hb
    show R (.ok (.ret (.bool (decide (vs.toArray.size > ws.toArray.size))))) _
    rw [z1, z2]
    cases q2 with
    | nil => rw [decide_eq_false (by simp)]; exact h
    | cons q2 => rw [decide_eq_false (by simp)]; exact h
  | cons x xs ih =>
    intro ys i q1 q2 l1 l2 prog w A R s h
    obtain ⟨hp, g, d, tk, os⟩ := s; obtain ⟨hl, hb, h⟩ := h
    generalize e1 : vs.drop i = r1 at q1
    generalize e2 : ws.drop i = r2 at q2
    cases q1 with | cons q1 =>
    have z1 := zbu e1 l1
    have z2 := zbu e2 l2
    obtain ⟨g1, e1'⟩ := zdZ e1
    cases q2 with
    | nil =>
      wp_walk using wpAny_loadPart' hl, wpAny_loadPart' hb
      rw [g1, zdj e2]
      wp_walk using wpAny_loadPart' hl, wpAny_loadPart' hb
      show R (.ok (.ret (.bool (decide (vs.toArray.size > ws.toArray.size))))) _
      rw [z1, z2, decide_eq_true (by simp)]
      exact h
    | cons q2 =>
      obtain ⟨g2, e2'⟩ := zdZ e2
      wp_walk using wpAny_loadPart' hl, wpAny_loadPart' hb
      rw [g1, g2]
      refine wb (zkp _ _ _ _ _ _ prog w _ _ ?_)
      have hc : ((i : Int) + 1) = ((i + 1 : Nat) : Int) := by push_cast; rfl
      unfold ltSs at h
      rename_i y _ _ _
      by_cases hxy : x = y
      · rw [if_pos (Eq.symm hxy)] at h
        rw [decide_eq_true hxy]
        wp_walk
        rw [hc]
        refine ⟨plainId_quiet plain_eq_loop _, codeAny_builtin entry_eq_loop ?_⟩
        rw [Around.under_plainId plain_eq_loop _]
        rw [List.length_cons, List.size_toArray] at z1 z2
        exact ih _ (i + 1) (e1' ▸ q1) (e2' ▸ q2) (z1 ▸ Nat.add_le_add_left (Nat.succ_le_succ (Nat.zero_le _)) i) (z2 ▸ Nat.add_le_add_left (Nat.succ_le_succ (Nat.zero_le _)) i) prog w A R _ ⟨hl, hb, h⟩
      · rw [if_neg (fun e => hxy (Eq.symm e))] at h
        rw [decide_eq_false hxy]
        wp_walk using wpAny_loadPart' hl, wpAny_loadPart' hb
        rw [g1, g2]
        refine wb ?_
        exact P.gt_str (wpAny_pure h)
theorem list_lt : Meets (Builtin.«list.__lt__» ⟨[.ref l, .ref b], []⟩) (fun A R s => s.heap.get? l = some (lobj vs.toArray n) ∧ s.heap.get? b = some (lobj ws.toArray n2) ∧ ∃ xs ys, StrVs vs xs ∧ StrVs ws ys ∧ R (.ok (.ret (.bool (ltSs xs ys)))) s) := by
  intro prog w A R s h
  obtain ⟨hp, g, d, tk, os⟩ := s; obtain ⟨hl, hb, xs, ys, q1, q2, h⟩ := h
  have f3 := AutoSeq1.sub_list_list
  wp_walk using wpAny_loadPart' hl, wpAny_loadPart' hb
  refine ⟨plainId_quiet plain_eq_loop _, codeAny_builtin entry_eq_loop ?_⟩
  rw [Around.under_plainId plain_eq_loop _]
  exact lt_loop xs ys 0 q1 q2 (Nat.zero_le _) (Nat.zero_le _) prog w A R _ ⟨hl, hb, h⟩
theorem list_gt : Meets (Builtin.«list.__gt__» ⟨[.ref l, .ref b], []⟩) (fun A R s => s.heap.get? l = some (lobj vs.toArray n) ∧ s.heap.get? b = some (lobj ws.toArray n2) ∧ ∃ xs ys, StrVs vs xs ∧ StrVs ws ys ∧ R (.ok (.ret (.bool (ltSs ys xs)))) s) := by
  intro prog w A R s h
  obtain ⟨hp, g, d, tk, os⟩ := s; obtain ⟨hl, hb, xs, ys, q1, q2, h⟩ := h
  have f3 := AutoSeq1.sub_list_list
  wp_walk using wpAny_loadPart' hl, wpAny_loadPart' hb
  refine ⟨plainId_quiet plain_eq_loop _, codeAny_builtin entry_eq_loop ?_⟩
  rw [Around.under_plainId plain_eq_loop _]
  exact gt_loop xs ys 0 q1 q2 (Nat.zero_le _) (Nat.zero_le _) prog w A R _ ⟨hl, hb, h⟩
theorem rich_lt {prog : Program} {w : World} {A : Around} {E : VP} {s : Shared} {Q : VP} (hl : s.heap.get? l = some (lobj vs.toArray n)) (hb : s.heap.get? b = some (lobj ws.toArray n2)) {xs ys : List (List Nat)} (q1 : StrVs vs xs) (q2 : StrVs ws ys) (hu : A.units < cLine)
    (h : Q (.bool (ltSs xs ys)) s) : wpAny (model prog w) A (richCompare .Lt (.ref l) (.ref b)) Q E s :=
  richCompare_meets_room (T := "list") ⟨_, hl, rfl⟩ ⟨_, hb, rfl⟩ PySem.F.slot_list_lt PySem.F.entry_list_lt (PySem.F.args_list_lt_2 _ _) list_lt ⟨hl, hb, xs, ys, q1, q2, by simp, h⟩ hu
theorem rich_gt {prog : Program} {w : World} {A : Around} {E : VP} {s : Shared} {Q : VP} (hl : s.heap.get? l = some (lobj vs.toArray n)) (hb : s.heap.get? b = some (lobj ws.toArray n2)) {xs ys : List (List Nat)} (q1 : StrVs vs xs) (q2 : StrVs ws ys) (hu : A.units < cLine)
    (h : Q (.bool (ltSs ys xs)) s) : wpAny (model prog w) A (richCompare .Gt (.ref l) (.ref b)) Q E s :=
  richCompare_meets_room (T := "list") ⟨_, hl, rfl⟩ ⟨_, hb, rfl⟩ PySem.F.slot_list_gt PySem.F.entry_list_gt (PySem.F.args_list_gt_2 _ _) list_gt ⟨hl, hb, xs, ys, q1, q2, by simp, h⟩ hu
end
end Mine
end
section
open PySem PySem.Calls PyProof.Rows PySem.Builtin.Str
namespace Mine
theorem zhv {T : NAd} {F : AP} {h : Heap} {l : List D} {ls : List (List Nat)} {vs : List Value} (e : toStrs l = some ls) (q : RepL T F h vs l) : StrVs vs ls := by
  have e' := zf1 e
  subst e'
  clear e
  induction ls generalizing vs with
  | nil => cases q; exact .nil
  | cons x ls ih => cases q with | cons a b => cases a with | str t p z => exact .cons (ih b)
inductive LtInv : D → D → Bool → Prop
  | str (x y : List Nat) : LtInv (.str x) (.str y) (ltL x y)
  | list {la lb : List D} {x y : List (List Nat)} : toStrs la = some x → toStrs lb = some y → LtInv (.list la) (.list lb) (ltSs x y)
theorem ltD_inv {a b : D} {c : Bool} (e : ltD a b = some c) : LtInv a b c := by
  cases a <;> try (cases e; done)
  · cases b <;> try (cases e; done)
    cases e; exact .str _ _
  · cases b <;> try (cases e; done)
    rename_i la lb
    replace e : (match toStrs la, toStrs lb with | some x, some y => some (ltSs x y) | _, _ => none) = some c := e
    cases e1 : toStrs la with
    | none => rw [e1] at e; cases e
    | some x =>
    cases e2 : toStrs lb with
    | none => rw [e1, e2] at e; cases e
    | some y =>
    rw [e1, e2] at e
    cases e
    exact .list e1 e2
inductive LtVal (h0 : Heap) : Value → Value → Bool → Prop
  | str (x y : List Nat) (t t' : Tok) : LtVal h0 (.str ⟨x.toArray⟩ t) (.str ⟨y.toArray⟩ t') (ltL x y)
  | list {a b : Addr} {vs ws : List Value} {n n2 : Nat} {xs ys : List (List Nat)} : h0.get? a = some (lobj vs.toArray n) → h0.get? b = some (lobj ws.toArray n2) → StrVs vs xs → StrVs ws ys → LtVal h0 (.ref a) (.ref b) (ltSs xs ys)
inductive BestInv (better : D → D → Option Bool) : List D → R → Prop
  | list {d : D} {r : List D} {res : D} : bestGo better d r = some res → BestInv better [.list (d :: r)] (.val res)
  | tup {d : D} {r : List D} {res : D} : bestGo better d r = some res → BestInv better [.tup (d :: r)] (.val res)
theorem zly {better : D → D → Option Bool} {ds : List D} {r : R} (e : opBest better ds = some r) : BestInv better ds r := by
  rcases ds with _ | ⟨a, t⟩
  · cases e
  cases a <;> try (cases e; done)
  all_goals
    rcases t with _ | ⟨_, _⟩
    · rename_i l
      rcases l with _ | ⟨d, l⟩
      · cases e
      obtain ⟨res, e1, e2⟩ := Option.map_eq_some_iff.mp (show (bestGo better d l).map R.val = some r from e)
      cases e2
      first | exact .list e1 | exact .tup e1
    · rename_i l _ _
      rcases l with _ | ⟨_, _⟩ <;> cases e
section
variable {cx : XCx} {F : AP} {h0 : Heap} {prog : Program} {w : World} {A : Around} {E : VP} {s : Shared}
theorem zlR {v u : Value} {a b : D} {c : Bool} (qa : Rep cx.T F h0 v a) (qb : Rep cx.T F h0 u b) (e : ltD a b = some c) : LtVal h0 v u c := by
  cases ltD_inv e with
  | str x y => cases qa with | str t p z => cases qb with | str t' p' z' => exact .str x y t t'
  | list e1 e2 => cases qa with | list f g z q => cases qb with | list f' g' z' q' => exact .list g g' (zhv e1 q) (zhv e2 q')
theorem zij {v u : Value} {a b : D} {c : Bool} (qa : Rep cx.T F h0 v a) (qb : Rep cx.T F h0 u b) (hk : ∀ a o, h0.get? a = some o → s.heap.get? a = some o) (hu : A.units < cLine) (e : ltD a b = some c) {Q : VP} (h : Q (.bool c) s) :
    wpAny (model prog w) A (richCompare .Lt v u) Q E s := by
  cases zlR qa qb e with
  | str => exact P.lt_str h
  | list g g' q q' => exact rich_lt (hk _ _ g) (hk _ _ g') q q' hu h
theorem zik {v u : Value} {a b : D} {c : Bool} (qa : Rep cx.T F h0 v a) (qb : Rep cx.T F h0 u b) (hk : ∀ a o, h0.get? a = some o → s.heap.get? a = some o) (hu : A.units < cLine) (e : gtD a b = some c) {Q : VP} (h : Q (.bool c) s) :
    wpAny (model prog w) A (richCompare .Gt v u) Q E s := by
  cases zlR qb qa e with
  | str => exact P.gt_str h
  | list g g' q q' => exact rich_gt (hk _ _ g') (hk _ _ g) q' q hu h
noncomputable def mm1 : {f : String → PySem.Builtin // PySem.Builtin.«min» = f "min" ∧ PySem.Builtin.«max» = f "max"} := ⟨_, rfl, rfl⟩
noncomputable def mmL : {f : String → CmpOp → PySem.Builtin // PySem.Builtin.«min.loop» = f "min" .Lt ∧ PySem.Builtin.«max.loop» = f "max" .Gt} := ⟨_, rfl, rfl⟩
set_option genInjectivity false in
structure MM (nm lp : String) (op : CmpOp) (better : D → D → Option Bool) : Prop where
  hn : (toString nm ++ toString ".loop" : String) = lp
  k : builtinKind nm = none
  p1 : plainId nm = true
  e1 : entryFor table nm = some (mm1.1 nm)
  a1 : ∀ a, argsOk nm ⟨[a], []⟩
  p2 : plainId lp = true
  e2 : entryFor table lp = some (mmL.1 nm op)
  rich : ∀ {cx : XCx} {F : AP} {h0 : Heap} {prog : Program} {w : World} {A : Around} {E : VP} {s : Shared} {v u : Value} {a b : D} {c : Bool}, Rep cx.T F h0 v a → Rep cx.T F h0 u b → (∀ a o, h0.get? a = some o → s.heap.get? a = some o) → A.units < cLine → better a b = some c → ∀ {Q : VP}, Q (.bool c) s →
    wpAny (model prog w) A (richCompare op v u) Q E s
theorem mm_min : MM "min" "min.loop" .Lt ltD := ⟨by decide, PySem.F.kind_min, PySem.F.plain_min, mm1.2.1 ▸ PySem.F.entry_min, PySem.F.args_min1, PySem.F.plain_min_loop, mmL.2.1 ▸ PySem.F.entry_min_loop, zij⟩
theorem mm_max : MM "max" "max.loop" .Gt gtD := ⟨by decide, PySem.F.kind_max, PySem.F.plain_max, mm1.2.2 ▸ PySem.F.entry_max, PySem.F.args_max1, PySem.F.plain_max_loop, mmL.2.2 ▸ PySem.F.entry_max_loop, zik⟩
variable {nm lp : String} {op : CmpOp} {better : D → D → Option Bool}
theorem mm_loop (M : MM nm lp op better) {R : Result → Shared → Prop} {I S : Addr} {fp wr : List Addr} {P : Nat → Value → Prop} {St : Nat → Heap → Prop} {items : List D} (W : Walks prog w A.in1 I fp wr items.length P St) (hu : A.units + 1 < cLine) (hSf : S ∉ fp) (hw : ∀ b ∈ S :: wr, h0.get? b = none)
    (item : ∀ i v, P i v → ∃ d, items[i]? = some d ∧ Rep cx.T F h0 v d) {res : D} :
    ∀ (k j : Nat) (s : Shared) (vb : Value) (db : D) (c : Nat), items.length - j = k → j ≤ items.length → St j s.heap → (∀ a o, h0.get? a = some o → s.heap.get? a = some o) → Rep cx.T F h0 vb db → bestGo better db (items.drop j) = some res →
    s.heap.get? S = some { cls := .type "list", dict := none, data := .seq #[vb, vb] c, slots := #[] } →
    (∀ v h' tk, Rep cx.T F h0 v res → (∀ a o, h0.get? a = some o → h'.get? a = some o) → R (.ok (.ret v)) { s with heap := h', toks := tk }) →
    codeAny (model prog w) A (.builtin lp ⟨[.ref I, .none, .ref S], []⟩) R s := by
  have hSw : S ∉ wr := fun h => hSf (W.sub _ h)
  have notw : ∀ a o, h0.get? a = some o → a ∉ wr := fun a o e h => by rw [hw a (List.mem_cons_of_mem _ h)] at e; cases e
  have notS : ∀ a o, h0.get? a = some o → a ≠ S := fun a o e h => by rw [h, hw S List.mem_cons_self] at e; cases e
  intro k
  induction k with
  | zero =>
    intro j s vb db c hk hj hst hkp hvb hg hS hR
    have hin : j = items.length := Nat.le_antisymm hj (Nat.le_of_sub_eq_zero hk)
    subst hin
    rw [List.drop_length] at hg
    cases hg
    refine codeAny_builtin M.e2 ?_
    rw [Around.under_plainId M.p2 _]
    show wpAny _ A.in1 (seqItems? (.ref S) >>= _) _ _ s
    refine wb (wpAny_seqItems hS rfl ?_)
    show wpAny _ A.in1 (tryCatch (pyNext (.ref I)) _ >>= _) _ _ s
    refine wb (wpAny_tryCatch (W.done s _ _ hst fun h' tk hk' => ?_))
    have hS' := hk' S _ hSw hS
    show wpAny _ A.in1 (updateSeq S (fun _ => #[]) >>= _) _ _ _
    refine wb ?_
    refine wpAny_updateSeq hS' rfl (wb (wpAny_letGo (wpAny_pure ?_)))
    exact hR vb _ tk hvb fun b o e => (Heap.get?_update_other _ _ (Ne.symm (notS b o e))).trans (hk' b o (notw b o e) (hkp b o e))
  | succ k ih =>
    intro j s vb db c hk hj hst hkp hvb hg hS hR
    have hlt : j < items.length := Nat.lt_of_sub_pos (by rw [hk]; exact Nat.succ_pos _)
    rw [List.drop_eq_getElem_cons hlt] at hg
    refine codeAny_builtin M.e2 ?_
    rw [Around.under_plainId M.p2 _]
    show wpAny _ A.in1 (seqItems? (.ref S) >>= _) _ _ s
    refine wb (wpAny_seqItems hS rfl ?_)
    show wpAny _ A.in1 (tryCatch (pyNext (.ref I)) _ >>= _) _ _ s
    refine wb (wpAny_tryCatch (W.item j s _ _ hlt hst fun v h' tk hP hst' hk' => ?_))
    have hS' := hk' S _ hSw hS
    obtain ⟨d, hd, hv⟩ := item j v hP
    rw [List.getElem?_eq_getElem hlt] at hd
    cases hd
    unfold bestGo at hg
    have hkp' : ∀ a o, h0.get? a = some o → h'.get? a = some o := fun b o e => hk' b o (notw b o e) (hkp b o e)
    show wpAny _ A.in1 (tryCatch (holding [v, v] (richCompare op v vb >>= _)) _ >>= _) _ _ _
    cases hb : better items[j] db with
    | none => rw [hb] at hg; cases hg
    | some b =>
    rw [hb] at hg
    refine wb (wpAny_tryCatch (wpAny_holding (wb (M.rich (s := { s with heap := h', toks := tk }) hv hvb hkp' hu hb ?_))))
    refine wb (wpAny_holding (wpAny_truthy_bool ?_))
    refine wb (wpAny_letGo (wpAny_pure ?_))
    cases b with
    | true =>
      simp only [if_true]
      refine wb ?_
      refine wpAny_updateSeq hS' rfl (wb (wpAny_letGo ?_))
      rw [M.hn]
      refine wpAny_pure ⟨plainId_quiet M.p2 _, ih (j + 1) _ v _ _ (by rw [Nat.sub_succ, hk]; rfl) hlt (W.frame _ _ _ hst' fun b hbf o e => ?_) (fun b o e => ?_) hv hg (Heap.get?_update_self _ hS' rfl)
        fun v' h'' tk'' hP' hk'' => ?_⟩
      · exact (Heap.get?_update_other _ _ (fun h : S = b => hSf (by rw [h]; exact hbf))).trans e
      · exact (Heap.get?_update_other _ _ (Ne.symm (notS b o e))).trans (hkp' b o e)
      · exact hR v' h'' tk'' hP' hk''
    | false =>
      simp only [Bool.false_eq_true, if_false]
      refine wb (wpAny_letGo ?_)
      rw [M.hn]
      exact wpAny_pure ⟨plainId_quiet M.p2 _, ih (j + 1) _ vb db c (by rw [Nat.sub_succ, hk]; rfl) hlt hst' hkp' hvb hg hS' fun v' h'' tk'' hP' hk'' => hR v' h'' tk'' hP' hk''⟩
theorem ziN (M : MM nm lp op better) {x : Value} {d : D} {r : List D} {res : D} {Q : VP} (hu : A.units + 2 < cLine) (hg : bestGo better d r = some res)
    (h : wpAny (model prog w) A.in1 (pyIter x) (fun it s₂ => ∃ I fp wr P St, it = .ref I ∧ Walks prog w A.in1 I fp wr (d :: r).length P St ∧ St 0 s₂.heap ∧ (∀ b ∈ fp, b < s₂.heap.objs.size) ∧ (∀ b ∈ wr, s.heap.get? b = none) ∧ (∀ a o, s.heap.get? a = some o → s₂.heap.get? a = some o) ∧
      (∀ i v, P i v → ∃ d', (d :: r)[i]? = some d' ∧ Rep cx.T F s.heap v d') ∧
      ∀ v h' tk, Rep cx.T F s.heap v res → (∀ b o, s.heap.get? b = some o → h'.get? b = some o) → Q v { s₂ with heap := h', toks := tk }) E s) :
    wpAny (model prog w) A (call (.builtin nm) [x]) Q E s := by
  refine call_function_tree M.k M.p1 M.e1 (M.a1 _) ?_
  show wpAny _ A.in1 (Builtin.Builtins.bindParams nm ["key", "default"] 0 ⟨[], []⟩ >>= _) _ _ s
  refine wb (wpAny_of_eq (show Builtin.Builtins.bindParams nm ["key", "default"] 0 ⟨[], []⟩ = pure [none, none] from rfl) ?_)
  refine wb (wpAny_pure ?_)
  refine wb (wpAny_mono h (fun it s₂ h₂ => ?_) fun _ _ e => e)
  obtain ⟨I, fp, wr, P, St, rfl, W, hst, hfp, hwr, hkp, item, hQ⟩ := h₂
  refine wb (wpAny_newObj_type ?_)
  have hSf : s₂.heap.objs.size ∉ fp := fun hm => Nat.lt_irrefl _ (hfp _ hm)
  have hS0 : s.heap.get? s₂.heap.objs.size = none := by
    cases e : s.heap.get? s₂.heap.objs.size with
    | none => rfl
    | some o => exact absurd (Heap.lt_size (hkp _ _ e)) (Nat.lt_irrefl _)
  rw [M.hn]
  refine wpAny_pure ⟨plainId_quiet M.p2 _, ?_⟩
  have hSw : s₂.heap.objs.size ∉ wr := fun h => hSf (W.sub _ h)
  have hst1 := W.frame 0 _ (s₂.heap.push { cls := .type "list", data := .seq #[] 0 }) hst fun b _ o e => Heap.get?_push_of_some _ e
  refine codeAny_builtin M.e2 ?_
  rw [Around.under_plainId M.p2 _]
  show wpAny _ A.in1 (seqItems? (.ref s₂.heap.objs.size) >>= _) _ _ _
  refine wb (wpAny_seqItems (Heap.get?_push_size _ rfl) rfl ?_)
  show wpAny _ A.in1 (tryCatch (pyNext (.ref I)) _ >>= _) _ _ _
  refine wb (wpAny_tryCatch (W.item 0 _ _ _ (Nat.zero_lt_succ _) hst1 fun v h' tk hP hst' hk' => ?_))
  have hS' := hk' s₂.heap.objs.size _ hSw (Heap.get?_push_size _ rfl)
  obtain ⟨d', hd', hv⟩ := item 0 v hP
  cases hd'
  have notw : ∀ a o, s.heap.get? a = some o → a ∉ wr := fun a o e h => by rw [hwr a h] at e; cases e
  have notS : ∀ a o, s.heap.get? a = some o → a ≠ s₂.heap.objs.size := fun a o e h => by rw [h, hS0] at e; cases e
  show wpAny _ A.in1 (updateSeq s₂.heap.objs.size (fun _ => #[v, v]) >>= _) _ _ _
  refine wb ?_
  refine wpAny_updateSeq hS' rfl ?_
  rw [M.hn]
  refine wpAny_pure ⟨plainId_quiet M.p2 _, mm_loop M (A := A) (cx := cx) (F := F) (h0 := s.heap) W (Nat.lt_of_succ_lt hu) hSf (fun b hb => ?_) item (r.length) 1 _ v d _ rfl (Nat.succ_le_succ (Nat.zero_le _)) (W.frame _ _ _ hst' fun b hbf o e => ?_) (fun b o e => ?_) hv (show bestGo better d ((d :: r).drop 1) = some res from hg) (Heap.get?_update_self _ hS' rfl) fun v' h'' tk'' hP' hk'' => ?_⟩
  · rcases List.mem_cons.mp hb with rfl | hb
    · exact hS0
    · exact hwr b hb
  · exact (Heap.get?_update_other _ _ (fun h : s₂.heap.objs.size = b => hSf (by rw [h]; exact hbf))).trans e
  · exact (Heap.get?_update_other _ _ (Ne.symm (notS b o e))).trans (hk' b o (notw b o e) (Heap.get?_push_of_some _ (hkp b o e)))
  · exact hQ v' h'' tk'' hP' hk''
end
section
variable {cx : XCx} {nm lp : String} {op : CmpOp} {better : D → D → Option Bool}
theorem zgK {x : Value} {a : Addr} {vs : List Value} {d : D} {r : List D} {res : D} (M : MM nm lp op better) {n : Nat} {Q E : VP} {s : Shared} {F : AP} {A : Around} {ok : CxOk cx} (bud : BudE n A) (w : Wd cx F s) {o o' : Obj} (g : s.heap.get? a = some o') (ql : RepL cx.T F s.heap vs (d :: r)) (e1 : bestGo better d r = some res) {St : Nat → Heap → Prop}
    (W : Walks cx.prog cx.w A.in1 s.heap.objs.size [s.heap.objs.size, a] [s.heap.objs.size] vs.toArray.size (fun i v => vs.toArray[i]? = some v) St) (st0 : St 0 (s.heap.push o))
    (it : ∀ {P : VP}, P (.ref s.heap.objs.size) { s with heap := s.heap.push o } → wpAny (model cx.prog cx.w) A.in1 (pyIter x) P E s) (hQ : Post cx F s (.val res) Q) : wpAny (model cx.prog cx.w) A (call (.builtin nm) [x]) Q E s := by
  have el : (d :: r).length = vs.toArray.size := by rw [List.size_toArray]; exact ql.length.symm
  refine ziN (cx := cx) (F := F) M (by have := bud.un; show A.units + 2 < 9900; omega) e1 (it ?_)
  refine ⟨s.heap.objs.size, [s.heap.objs.size, a], [s.heap.objs.size], fun i v => vs.toArray[i]? = some v, St, rfl, el ▸ W, st0, ?_, ?_, fun _ _ e => Heap.get?_push_of_some _ e, fun i v hv => ?_, fun v h' tk hv hk => ?_⟩
  · intro b hb
    rw [Heap.size_push]
    rcases List.mem_cons.mp hb with rfl | hb
    · exact Nat.lt_succ_self _
    · cases List.mem_singleton.mp hb
      exact Nat.lt_succ_of_lt (Heap.lt_size g)
  · intro b hb
    cases List.mem_singleton.mp hb
    exact zar _
  · replace hv : vs.toArray[i]? = some v := hv
    rw [List.getElem?_toArray] at hv
    exact ql.getV hv
  · exact hQ v F _ (Step.grown ok w tk hk) (.val (hv.mono (fun _ h => h) fun _ _ _ e => hk _ _ e))
theorem zjs {n : Nat} {A : Around} {F : AP} {s : Shared} {vs : List Value} {ds : List D} {r : R} (M : MM nm lp op better) (ok : CxOk cx) (bud : BudE n A) (w : Wd cx F s) (q : BRepL cx F s.heap vs ds) (he : opBest better ds = some r) : Ev cx A F s (call (.builtin nm) vs) r := by
  intro Q E hQ
  cases zly he with
  | @list d r' res e1 =>
    obtain ⟨x, rfl, qa⟩ := q.one
    obtain ⟨a, vs, k, rfl, nx, g, z, ql⟩ := qa.list_inv w
    exact zgK (ok := ok) M bud w g ql e1 (Walks.list (A := A.in1) bud.hd _ a (Nat.ne_of_lt (Heap.lt_size g)) vs.toArray) ⟨⟨_, Heap.get?_push_size _ rfl, rfl, rfl⟩, zaB (Heap.get?_push_of_some _ g)⟩ (fun h => wpAny_pyIter_list (zaB g) h) hQ
  | @tup d r' res e1 =>
    obtain ⟨x, rfl, qa⟩ := q.one
    obtain ⟨a, vs, k, rfl, f, g, z, ql⟩ := qa.tup_inv
    have ht : s.heap.IsTuple a vs.toArray := ⟨_, g, rfl, k, rfl⟩
    exact zgK (ok := ok) M bud w g ql e1 (Walks.tuple (A := A.in1) bud.hd _ a (Nat.ne_of_lt (Heap.lt_size g)) vs.toArray) ⟨⟨_, Heap.get?_push_size _ rfl, rfl, rfl⟩, ht.push _⟩ (fun h => wpAny_pyIter_tuple ht h) hQ
theorem zlI : OpOK cx .min (fun vs => call (.builtin "min") vs) := by
  intro n A F s vs ds r ok bud w q he
  exact zjs mm_min ok bud w q he
inductive MaxInv : List D → R → Prop
  | two (a b : Int) : MaxInv [.int a, .int b] (.val (.int (if b > a then b else a)))
  | best {ds : List D} {r : R} : opBest gtD ds = some r → MaxInv ds r
theorem max_inv {ds : List D} {r : R} (he : opMax ds = some r) : MaxInv ds r := by
  rcases ds with _ | ⟨a0, t0⟩
  · cases he
  cases a0 with
  | int a =>
    rcases t0 with _ | ⟨a1, t1⟩
    · cases he
    cases a1 with
    | int b => rcases t1 with _ | ⟨_, _⟩ <;> cases he; exact .two a b
    | _ => exact .best he
  | _ => exact .best he
theorem zlJ : OpOK cx .max (fun vs => call (.builtin "max") vs) := by
  intro n A F s vs ds r ok bud w q he
  cases max_inv (show opMax ds = some r from he) with
  | two a b =>
    intro Q E hQ
    obtain ⟨x, y, rfl, qa, qb⟩ := q.two
    obtain ⟨t, rfl⟩ := qa.int_inv
    obtain ⟨u, rfl⟩ := qb.int_inv
    refine max_two_ints bud.hd fun h' tk hk => hQ _ F _ (Step.grown ok w tk hk) ?_
    by_cases h : b > a
    · rw [if_pos h, if_pos h]; exact .val (.int _ _)
    · rw [if_neg h, if_neg h]; exact .val (.int _ _)
  | best e => exact zjs mm_max ok bud w q e
end
set_option genInjectivity false in
structure IterE (cx : XCx) (A : Around) (F₀ : AP) (s₀ : Shared) (items : List D) (e it : Addr) (F : AP) (s : Shared) (fp : List Addr) (P : Nat → Value → Prop) (St : Nat → Heap → Prop) : Prop where
  st : Step cx F₀ s₀ F s
  W : ∀ A' : Around, A'.handled = none → Draws cx.prog cx.w A' it fp items.length P St
  s0 : St 0 s.heap
  he : IsEnum s.heap e it 0 .none
  ne : e ≠ it
  nef : e ∉ fp
  newe : s₀.heap.get? e = none ∧ ¬ F e
  newi : s₀.heap.get? it = none ∧ ¬ F it
  deps : ∀ b ∈ fp, b = it ∨ F b
  item : ∀ i v, P i v → ∃ d, items[i]? = some d ∧ Rep cx.T F s.heap v d
  live : ∀ i h, St i h → ∃ o, h.get? it = some o
  lim : items.length ≤ lim
section
variable {cx : XCx} {ε : Sc}
theorem zgB : ∀ {l : List D} {j : Nat} {k : Int} {d : D}, l[j]? = some d → (enumL k l)[j]? = some (.tup [.int (k + j), d])
  | [], j, k, d, h => by cases h
  | a :: l, 0, k, d, h => by
    cases h
    show some (D.tup [.int k, a]) = _
    simp
  | a :: l, j + 1, k, d, h => by
    show (enumL (k + 1) l)[j]? = _
    rw [zgB (l := l) (by simpa using h), show k + 1 + (j : Int) = k + ((j + 1 : Nat) : Int) by push_cast; omega]
theorem zcq : ∀ {l : List D} {k : Int}, (enumL k l).length = l.length
  | [], _ => rfl
  | a :: l, k => by show (enumL (k + 1) l).length + 1 = _; rw [zcq]; rfl
noncomputable def PairR (cx : XCx) (F : AP) (h : Heap) (v : Value) (d : D) : Prop := ∃ (a : Addr) (vs : List Value) (ds : List D), v = .ref a ∧ h.IsTuple a vs.toArray ∧ d = .tup ds ∧ RepL cx.T F h vs ds
theorem IterE.gen {A : Around} (hh : A.handled = none) {elts : List Expr} {kt : Nat} {pt : Pos} {F₀ F : AP} {s₀ s : Shared} {items : List D} {e it : Addr} {fp : List Addr} {P : Nat → Value → Prop} {St : Nat → Heap → Prop} (J : IterE cx A F₀ s₀ items e it F s fp P St) :
    IterG cx A (.Tuple elts kt pt) F₀ s₀ (enumL 0 items) e F s [e, it] (fun j h => (∃ old, IsEnum h e it (j : Int) old) ∧ St j h) (PairR cx) := by
  have mem : ∀ b, b ∈ [e, it] → b = e ∨ b = it := fun b hb => by simpa using hb
  have out : ∀ b, b ∉ [e, it] → b ≠ e ∧ b ≠ it := fun b hb => by simpa using hb
  refine ⟨J.st, ⟨⟨_, J.he⟩, J.s0⟩, fun b hb => ?_, fun j h hs b hb => ?_, fun j h h' hs hk => ?_, fun j s' F' K N E hlt hst hrep hnw hQ => ?_, fun s' K N E hst hQ => ?_⟩
  · rcases mem b hb with rfl | rfl
    · exact J.newe
    · exact J.newi
  · rcases mem b hb with rfl | rfl
    · obtain ⟨_, g⟩ := hs.1; exact ⟨_, g⟩
    · exact J.live _ _ hs.2
  · obtain ⟨⟨old, g⟩, hs⟩ := hs
    exact ⟨⟨old, hk e (.inl (by simp)) _ g⟩, (J.W A hh).frame _ _ _ hs fun b hb => hk b ((J.deps b hb).imp (fun q => by simp [q]) id)⟩
  · rw [zcq] at hlt
    obtain ⟨⟨old, g⟩, hst⟩ := hst
    refine wpAny_pyNext_enum_itemD (J.W A.in1 hh) g hst hlt J.ne J.nef fun v h' tk hP hout hst' hT hsz hk => ?_
    refine wpAny_letOwnedTupleGo_enum (s := { s' with heap := h', toks := tk + 1 }) hout fun h2 hen2 hs2 => ?_
    have hk2 : ∀ b o, b ∉ [e, it] → s'.heap.get? b = some o → h2.get? b = some o := fun b o hb q => hs2.extBut b o (out b hb).1 (hk b o (out b hb).1 (out b hb).2 q)
    obtain ⟨d, hd, hr⟩ := J.item j v hP
    have hTne : s'.heap.objs.size ≠ e := fun q => by have := Heap.lt_size g; rw [q] at this; exact Nat.lt_irrefl _ this
    have hT2 : h2.get? s'.heap.objs.size = some { cls := .type "tuple", data := .seq #[.int (j : Int) tk, v] } := hs2.extBut _ _ hTne hT
    have hr2 : Rep cx.T F' h2 v d := (hrep v d hr).mono (fun _ h => h) fun a o f q => hk2 a o (fun hm => hnw a hm f) q
    have ec : (((j + 1 : Nat) : Int)) = (j : Int) + 1 := by push_cast; rfl
    refine hQ _ h2 (tk + 1) _ (zgB hd) ⟨_, [.int (j : Int) tk, v], [.int (0 + (j : Int)), d], rfl, ⟨_, hT2, rfl, _, rfl⟩, rfl, ?_⟩ ⟨⟨v, ec ▸ hen2⟩, (J.W A hh).frame _ _ _ hst' fun b hb o q => hs2.extBut b o (fun q => J.nef (q ▸ hb)) q⟩ hk2
    rw [Int.zero_add]
    exact .cons (.int _ _) (.cons hr2 .nil)
  · rw [zcq] at hst
    obtain ⟨⟨old, g⟩, hst⟩ := hst
    exact wpAny_pyNext_enum_endD (J.W A.in1 hh) g hst fun h' hk => hQ h' s'.toks fun b o hb q => hk b o (out b hb).2 q
end
section
variable {cx : XCx} {ε : Sc}
theorem op_pow : OpOK cx .pow (op2 (binaryOp .Pow)) := by
  intro n A F s vs ds r ok bud w q he Q E hQ
  obtain ⟨a, b, rfl, he⟩ := zdX (show opPow ds = some r from he)
  obtain ⟨⟨h1, h2, h3, h4⟩, rfl⟩ := zca he
  obtain ⟨x, y, rfl, qa, qb⟩ := q.two
  obtain ⟨t, rfl⟩ := qa.int_inv
  obtain ⟨u, rfl⟩ := qb.int_inv
  exact pow_int_small h1 (Int.le_trans h2 (by decide)) (by omega) (hQ _ F _ ((Step.refl w).toks _) (.val (.int _ _)))
theorem zls {A : Around} (hh : A.handled = none) {F₀ F : AP} {s₀ s : Shared} (ok : CxOk cx) (w₀ : Wd cx F₀ s₀) (st : Step cx F₀ s₀ F s) {v : Value} {d : D} (q : Rep cx.T F s.heap v d) {items : List D} (hi : enumOf d = some items)
    {Q E : VP} (hQ : ∀ e i F' s' fp P St, IterE cx A F₀ s₀ items e i F' s' fp P St → Q (.ref e) s') : wpAny (model cx.prog cx.w) A (call (.type "enumerate") [v]) (fun v s₁ => wpAny (model cx.prog cx.w) A (pyIter v) Q E s₁) E s := by
  have fr := zar s.heap
  have fr2 : s.heap.get? (s.heap.objs.size + 1) = none := Heap.get?_none_of_le (Nat.le_succ _)
  have n1 : s₀.heap.get? s.heap.objs.size = none ∧ ¬ F s.heap.objs.size := ⟨st.fresh (st.wd.newNotX fr) fr, st.wd.newNotF fr⟩
  have n2 : s₀.heap.get? (s.heap.objs.size + 1) = none ∧ ¬ F (s.heap.objs.size + 1) := ⟨st.fresh (st.wd.newNotX fr2) fr2, st.wd.newNotF fr2⟩
  cases q with
  | @list a vs n l f g z q =>
    cases hi
    have hlt := Heap.lt_size g
    have hne : a ≠ s.heap.objs.size := Nat.ne_of_lt hlt
    have el : items.length = vs.toArray.size := by rw [List.size_toArray]; exact q.length.symm
    refine call_enumerate_list (zaB g) fun h' he hit hsz keep => ?_
    have stp := Step.grown ok st.wd s.toks keep
    refine wpAny_pyIter_enum he (hQ _ s.heap.objs.size F _ [s.heap.objs.size, a] (fun i v => vs.toArray[i]? = some v) (fun i h => h.IsListIter s.heap.objs.size a i ∧ h.IsList a vs.toArray) ?_)
    refine ⟨st.trans stp, fun A' hh => el ▸ Draws.list hh _ a hne vs.toArray, ⟨hit, zaB (keep _ _ g)⟩, he, Nat.succ_ne_self _, ?_, n2, n1, fun b hb => ?_, fun i v h => ?_, fun i h hs => ?_, by rw [← q.length]; exact z⟩
    · simp only [List.mem_cons, List.not_mem_nil, or_false, not_or]
      exact ⟨Nat.succ_ne_self _, fun e => Nat.lt_irrefl _ (Nat.lt_of_succ_lt (e.symm ▸ hlt : s.heap.objs.size + 1 < s.heap.objs.size))⟩
    · simp only [List.mem_cons, List.not_mem_nil, or_false] at hb
      rcases hb with rfl | rfl
      · exact .inl rfl
      · exact .inr f
    · replace h : vs.toArray[i]? = some v := h
      rw [List.getElem?_toArray] at h
      obtain ⟨d, e, r⟩ := q.getV h
      exact ⟨d, e, stp.rep st.wd r⟩
    · obtain ⟨⟨o, g, _⟩, _⟩ := hs
      exact ⟨o, g⟩
  | @str l t p z =>
    cases hi
    have el : (l.map fun c => D.str [c]).length = (PySem.Str.mk l.toArray).cps.size := by simp
    refine call_enumerate_str fun h' he hit hsz keep => ?_
    have stp := Step.grown ok st.wd s.toks keep
    have item : ∀ (i : Nat) (v : Value), (∃ c u, (PySem.Str.mk l.toArray).cps[i]? = some c ∧ v = Value.str ⟨#[c]⟩ u) → ∃ d, (l.map fun c => D.str [c])[i]? = some d ∧ Rep cx.T F h' v d := by
      rintro i v ⟨c, u, e, rfl⟩
      rw [show (PySem.Str.mk l.toArray).cps = l.toArray from rfl, List.getElem?_toArray] at e
      refine ⟨.str [c], by rw [List.getElem?_map, e]; rfl, .str (l := [c]) u (fun c' h => ?_) (by simp [lim])⟩
      rw [List.mem_singleton.mp h]
      exact p _ (List.mem_of_getElem? e)
    have hz : (l.map fun c => D.str [c]).length ≤ lim := by simpa using z
    have nef : s.heap.objs.size + 1 ∉ [s.heap.objs.size] := fun h => Nat.succ_ne_self _ (List.mem_singleton.mp h)
    have deps : ∀ b ∈ [s.heap.objs.size], b = s.heap.objs.size ∨ F b := fun b hb => .inl (List.mem_singleton.mp hb)
    refine wpAny_pyIter_enum he ?_
    cases ha : (PySem.Str.mk l.toArray).cps.all (· < 128)
    · have hit' : h'.IsStrIter s.heap.objs.size "str_iterator" ⟨l.toArray⟩ t 0 := by unfold strIterType at hit; rw [ha] at hit; exact hit
      exact hQ _ s.heap.objs.size F _ _ _ _ ⟨st.trans stp, fun A' hh => el ▸ Draws.strWide hh _ ⟨l.toArray⟩ t, hit', he, Nat.succ_ne_self _, nef, n2, n1, deps, item, fun i h hs => let ⟨o, g, _⟩ := hs; ⟨o, g⟩, hz⟩
    · have hit' : h'.IsStrIter s.heap.objs.size "str_ascii_iterator" ⟨l.toArray⟩ t 0 := by unfold strIterType at hit; rw [ha] at hit; exact hit
      exact hQ _ s.heap.objs.size F _ _ _ _ ⟨st.trans stp, fun A' hh => el ▸ Draws.strAscii hh _ ⟨l.toArray⟩ t, hit', he, Nat.succ_ne_self _, nef, n2, n1, deps, item, fun i h hs => let ⟨o, g, _⟩ := hs; ⟨o, g⟩, hz⟩
  | _ => cases hi
theorem zlq {cf : CfT} {x : X} {ρ : List Slot} {its : List D} (h : evI cf (.enumI x) ρ = some its) : ∃ r d items, ev cf x ρ = some [r] ∧ r.fz = some d ∧ enumOf d = some items ∧ its = enumL 0 items := by
  unfold evI at h
  split at h
  · rename_i l e
    cases h
    replace e := (zaV _).symm.trans e
    split at e
    · rename_i r e1
      split at e
      · rename_i d e2
        obtain ⟨l', e3, e4⟩ := Option.map_eq_some_iff.mp e
        cases e4
        exact ⟨r, d, l', e1, e2, e3, rfl⟩
      · cases e
    · cases e
  · cases h
theorem zcK {x y : Str} {i j : Nat} {p p' pt pe pc pos : Pos} {k : Nat} {e : Expr} {z : X} {bs : List Stmt} {b : S} (hk : ε.kinds.lookup ("enumerate" : Str) = some .globalImplicit) (hg : cx.mg ("enumerate" : Str) = none)
    (hx : ε.vars.lookup x = some i) (hy : ε.vars.lookup y = some j) (hfx : ε.kinds.lookup x ≠ some .free) (hfy : ε.kinds.lookup y ≠ some .free) (hi : Sound cx ε e z) (hst : starred e = false) (hb : SoundSs cx ε bs b)
    (hs : ∀ env x, foldedSetIterable (.Call (.Name "enumerate" pe) [e] [] pc) env x = pure x) : SoundS cx ε (.For (.Tuple [.Name x p, .Name y p'] k pt) (.Call (.Name "enumerate" pe) [e] [] pc) bs [] pos) (.forE2 i j (.enumI z) b) := by
  intro n cf A env F s ρ ad m cm H ρ' o h Q E hQ
  replace h := (zgy cf).symm.trans h
  split at h
  · rename_i its ei
    obtain ⟨r, d, items, e1, e2, e3, rfl⟩ := zlq ei
    refine zj9 (TR := PairR cx) hb hs H (fun F s ρ m cm ad H' v d ρ' hv hp Q' E' hQ' => ?_) (fun Q' E' hQ' => ?_) h hQ
    · obtain ⟨a, vs, ds, rfl, ht, rfl, q⟩ := hv
      unfold put2 at hp
      split at hp <;> cases hp
      rename_i q0
      cases q0
      exact ziW H' ht q (is := [i, j]) rfl rfl rfl (.cons hx hfx zeM (.cons hy hfy zeM .nil)) hQ'
    rw [zav (by intro _ _ _ e; cases e)]
    refine wb (zaK H.here hk hg (by decide) (v := .type "enumerate") (by kernel_rfl) (by decide) ?_)
    have hL : SoundL cx ε [e] (.cons z .nil) false := .cons hi hst .nil
    refine PyProof.Rows.callWith_type (zaR hL) (zaW hL H.here (zhZ e1) fun vs F' s' st q => ?_)
    obtain ⟨v, rfl, q0⟩ : ∃ v, vs = [v] ∧ RepR cx F' s.heap s'.heap v r := by
      cases q with | cons a b => cases b; exact ⟨_, rfl, a⟩
    obtain ⟨F'', st', _, q'⟩ := st.fz H.ok H.wd q0 e2
    exact zls H.bud.hd H.ok H.wd st' q' e3 fun e0 i0 F3 s3 fp P St J => hQ' e0 F3 s3 _ _ (J.gen H.bud.hd)
  · cases h
end
section
variable {cx : XCx} {ε : Sc}
end
end Mine
end
section
open PySem PySem.Calls PyProof.Rows PySem.Builtin.Str PySem.SeqAt PySem.AutoSeq1 PySem.MeetsSeq PySem.MeetsSeq2 PySem.MeetsSeq3 PySem.SeqRoads2
namespace Mine
section
variable {cx : XCx} {ε : Sc}
end
end Mine
end
section
open PySem PySem.Calls PyProof.Rows PySem.Builtin.Str
open AutoSeq1 (wpAny_loadPart')
namespace Mine
theorem zfn : PySem.Slot "map" "__init__" "object.__init__" :=
  .of (owner := "object") (n := "__init__") (by rw [typeLookup_type, builtinLookup_eq_fast]; kernel_rfl) (by decide +kernel) (by decide +kernel) (by decide +kernel)
    (by first | exact .inl (by decide +kernel) | exact .inr (by decide +kernel)) (by rw [isSubtype_type]; kernel_rfl)
theorem zc8 : PySem.Slot "map" "__iter__" "map.__iter__" :=
  .of (owner := "map") (n := "__iter__") (by rw [typeLookup_type, builtinLookup_eq_fast]; kernel_rfl) (by decide +kernel) (by decide +kernel) (by decide +kernel)
    (by first | exact .inl (by decide +kernel) | exact .inr (by decide +kernel)) (by rw [isSubtype_type]; kernel_rfl)
theorem slot_map_next : PySem.Slot "map" "__next__" "map.__next__" :=
  .of (owner := "map") (n := "__next__") (by rw [typeLookup_type, builtinLookup_eq_fast]; kernel_rfl) (by decide +kernel) (by decide +kernel) (by decide +kernel)
    (by first | exact .inl (by decide +kernel) | exact .inr (by decide +kernel)) (by rw [isSubtype_type]; kernel_rfl)
theorem zcN : entryFor table "map.__next__" = some PySem.Builtin.«map.__next__» := entryFor_of_tree (by kernel_rfl)
theorem zdi : entryFor table "map.__new__" = some PySem.Builtin.«map.__new__» := entryFor_of_tree (by kernel_rfl)
theorem zjL : mroOf (.type "map") = pure [.type "map", .type "object"] := by rw [mroOf_type]; kernel_rfl
theorem zeA : typeLookup (.type "map") "__new__" = pure (some (.builtin "map.__new__")) := by rw [typeLookup_type, builtinLookup_eq_fast]; kernel_rfl
theorem ze5 : TypeCalled "map" "map.__new__" "object.__init__" :=
  ⟨by decide +kernel, by decide +kernel, ⟨_, _, zjL⟩, madeBy_type zjL zeA (by decide +kernel), by decide +kernel, by rw [isSubtype_type]; kernel_rfl, zfn⟩
theorem zcJ (a b : Value) : checkTypeCall "map" ⟨[a, b], []⟩ = pure () := by kernel_rfl
theorem zdc (a b : Value) : checkBuiltinCall "map.__new__" ⟨[.type "map", a, b], []⟩ = pure () := by kernel_rfl
theorem zit : typeLookup (.type "map") "__len__" = pure none := by rw [typeLookup_type, builtinLookup_eq_fast]; kernel_rfl
theorem zhd : typeLookup (.type "map") "__length_hint__" = pure none := by rw [typeLookup_type, builtinLookup_eq_fast]; kernel_rfl
theorem ziZ : isSubtype (.type "map") (.type "map") = pure true := by rw [isSubtype_type]; kernel_rfl
theorem zcr (a : Value) : argsOk "map.__next__" ⟨[a], []⟩ := by unfold argsOk; kernel_rfl
theorem zeo (a : Value) : argsOk "map.__iter__" ⟨[a], []⟩ := by unfold argsOk; kernel_rfl
theorem zeF : entryFor table "map.__iter__" = some PySem.Builtin.«dict_keyiterator.__iter__» :=
  entryFor_alias (id' := "dict_keyiterator.__iter__") (by kernel_rfl) (by first | rfl | decide +kernel | (unfold String.splitOn; simp +decide [String.splitOnAux])) (by decide +kernel) (by kernel_rfl)
noncomputable abbrev mobj (t : Addr) (f : Value) : Obj := { cls := .type "map", data := .fields #[.ref t, f] }
noncomputable abbrev mapH1 (c : String) (h : Heap) (l : Addr) : Heap := h.push { cls := .type c, data := .fields #[.ref l, .int 0 0] }
noncomputable abbrev mapH2 (c : String) (h : Heap) (l : Addr) : Heap := (mapH1 c h l).push { cls := .type "tuple", data := .seq #[.ref h.objs.size] }
noncomputable abbrev mapH3 (c : String) (h : Heap) (l : Addr) (f : Value) : Heap := (mapH2 c h l).push (mobj (mapH1 c h l).objs.size f)
theorem zfA (l : Addr) (f : Value) (items : Array Value) (n : Nat) :
    Meets (PySem.Builtin.«map.__new__» ⟨[.type "map", f, .ref l], []⟩) (fun _ R s => s.heap.get? l = some (lobj items n) ∧
      R (.ok (.ret (.ref (mapH2 "list_iterator" s.heap l).objs.size))) { s with heap := mapH3 "list_iterator" s.heap l f }) :=
  .of_wp fun prog w A R s h => by
    obtain ⟨hp, g, d, tk, os⟩ := s; obtain ⟨hl, h⟩ := h
    have hsub := ziZ
    have hL : Heap.IsList (Shared.heap ⟨hp, g, d, tk, os⟩) l items := ⟨_, hl, rfl, n, rfl⟩
    wp_walk using wpAny_loadPart' hl, wpAny_pyIter_list hL
    exact ⟨_, rfl, h⟩
theorem zez (l : Addr) (f : Value) (items : Array Value) (n : Nat) :
    Meets (PySem.Builtin.«map.__new__» ⟨[.type "map", f, .ref l], []⟩) (fun _ R s => s.heap.get? l = some (tobj items n) ∧
      R (.ok (.ret (.ref (mapH2 "tuple_iterator" s.heap l).objs.size))) { s with heap := mapH3 "tuple_iterator" s.heap l f }) :=
  .of_wp fun prog w A R s h => by
    obtain ⟨hp, g, d, tk, os⟩ := s; obtain ⟨hl, h⟩ := h
    have hsub := ziZ
    have hL : Heap.IsTuple (Shared.heap ⟨hp, g, d, tk, os⟩) l items := ⟨_, hl, rfl, n, rfl⟩
    wp_walk using wpAny_loadPart' hl, wpAny_pyIter_tuple hL
    exact ⟨_, rfl, h⟩
section
variable {prog : Program} {w : World} {A : Around} {E : VP} {s : Shared}
theorem zgG {l : Addr} {f : Value} {items : Array Value} {n : Nat} {Q : VP} (hl : s.heap.get? l = some (tobj items n)) (h : Q (.ref (mapH2 "tuple_iterator" s.heap l).objs.size) { s with heap := mapH3 "tuple_iterator" s.heap l f }) :
    wpAny (model prog w) A (call (.type "map") [f, .ref l]) Q E s :=
  callType_new ze5 (by decide) (zcJ _ _) (zdc _ _) (fun obj => PySem.F.args_object_init_3 obj _ _) zdi (zez l f items n) ⟨hl, ⟨_, Heap.get?_push_size _ rfl, rfl⟩, h⟩
theorem zdv {it t : Addr} {i : Nat} {items : Array Value} {x : Value} {Q : VP} (hit : s.heap.IsTupleIter it t i) (ht : s.heap.IsTuple t items) (hx : items[i]? = some x)
    (hQ : ∀ h', h'.IsTupleIter it t (i + 1) → Heap.SameBut it s.heap h' → Q x { s with heap := h' }) : wpAny (model prog w) A (Builtin.SmallTypes.nextOf (.ref it)) Q E s := by
  obtain ⟨o, ho, hc, hd⟩ := id hit
  obtain ⟨ol, hol, _, nl, hdl⟩ := ht
  unfold Builtin.SmallTypes.nextOf
  refine wb (wpAny_callSpecial?_slot (name := Str.ofString "__next__") hit.typeIs PySem.F.slot_tuple_iterator_next
    (wpAny_call_entry PySem.F.slot_tuple_iterator_next hit.typeIs PySem.F.entry_tuple_iterator_next ?_ (PySem.F.args_tuple_iterator_next_1 _)))
  show wpAny _ _ (field (.ref it) 0 >>= _) _ _ s
  refine wb (wpAny_field ho hd (x := .ref t) rfl ?_)
  show wpAny _ _ (if (Value.ref t == Value.none) = true then _ else _) _ _ s
  rw [if_neg (show ¬ ((Value.ref t == Value.none) = true) from Bool.false_ne_true)]
  show wpAny _ _ (field (.ref it) 1 >>= _) _ _ s
  refine wb (wpAny_field ho hd (x := .int i 0) rfl ?_)
  show wpAny _ _ (seqItems? (.ref t) >>= _) _ _ s
  refine wb (wpAny_seqItems hol hdl ?_)
  simp only [Int.toNat_natCast, hx]
  refine wb (wpAny_setField ho hd (by simp) (wpAny_pure ⟨x, rfl, wpAny_pure (hQ _ ?_ (Heap.SameBut.update ..))⟩))
  exact ⟨_, Heap.get?_update_self _ ho (Obj.isFreed_of_fields (Obj.data_mapFields hd _)), (Obj.cls_mapFields ..).trans hc, by
    rw [Obj.data_mapFields hd]; simp [rawInt]⟩
theorem zdP {it t : Addr} {i : Nat} {items : Array Value} {Q : VP} (hh : A.handled = none) (hit : s.heap.IsTupleIter it t i) (ht : s.heap.IsTuple t items) (hx : items[i]? = none)
    (hE : ∀ h' e, Heap.ExtBut it s.heap h' → (∃ o, h'.get? e = some o ∧ o.cls = .type "StopIteration") → E (.ref e) { s with heap := h' }) : wpAny (model prog w) A (Builtin.SmallTypes.nextOf (.ref it)) Q E s := by
  obtain ⟨o, ho, hc, hd⟩ := id hit
  obtain ⟨ol, hol, _, nl, hdl⟩ := ht
  unfold Builtin.SmallTypes.nextOf
  refine wb (wpAny_callSpecial?_slot (name := Str.ofString "__next__") hit.typeIs PySem.F.slot_tuple_iterator_next
    (wpAny_call_entry PySem.F.slot_tuple_iterator_next hit.typeIs PySem.F.entry_tuple_iterator_next ?_ (PySem.F.args_tuple_iterator_next_1 _)))
  show wpAny _ _ (field (.ref it) 0 >>= _) _ _ s
  refine wb (wpAny_field ho hd (x := .ref t) rfl ?_)
  show wpAny _ _ (if (Value.ref t == Value.none) = true then _ else _) _ _ s
  rw [if_neg (show ¬ ((Value.ref t == Value.none) = true) from Bool.false_ne_true)]
  show wpAny _ _ (field (.ref it) 1 >>= _) _ _ s
  refine wb (wpAny_field ho hd (x := .int i 0) rfl ?_)
  show wpAny _ _ (seqItems? (.ref t) >>= _) _ _ s
  refine wb (wpAny_seqItems hol hdl ?_)
  simp only [Int.toNat_natCast, hx]
  refine wb (wpAny_rule (wb (wpAny_setField ho hd (by simp) ?_)))
  show wpAny _ _ (newExc (.type "StopIteration") [] >>= _) _ _ _
  refine wb ?_
  simp only [newExc, newTuple]
  refine wb (wpAny_newObj_type ?_ (by size_fits))
  refine wb (m := firstArgMember _ _) (wpAny_of_eq (a := Value.none) (by first | rfl | (simp only [firstArgMember]; rfl)) ?_)
  refine wpAny_newObj_type ?_ (by size_fits)
  simp only [raiseNew]
  refine wb (wpAny_handled ?_)
  first | rw [show A.in1.handled = none from hh] | rw [hh]
  refine wb (wpAny_pure (wpAny_throw ?_))
  exact hE _ _ (((Heap.SameBut.update ..).extBut.push _).push _) ⟨_, Heap.get?_push_size _ rfl, rfl⟩
theorem zlt (hh : A.handled = none) (it t : Addr) (hne : t ≠ it) (items : Array Value) :
    Draws prog w A it [it, t] items.size (fun i v => items[i]? = some v) (fun i h => h.IsTupleIter it t i ∧ h.IsTuple t items) where
  live := fun _ _ st => let ⟨o, ho, _⟩ := st.1; ⟨o, ho⟩
  frame := fun _ _ _ st hk => ⟨let ⟨o, ho, r⟩ := st.1; ⟨o, hk it (by simp) o ho, r⟩, let ⟨o, ho, r⟩ := st.2; ⟨o, hk t (by simp) o ho, r⟩⟩
  item := fun i s Q E hi st hQ => by
    refine zdv st.1 st.2 (x := items[i]) (by simp [hi]) fun h' hit' hs' => ?_
    exact hQ _ h' s.toks (by simp [hi]) ⟨hit', let ⟨o, ho, r⟩ := st.2; ⟨o, (hs'.2 t hne).trans ho, r⟩⟩ hs'
  done := fun s Q E st hE => zdP hh st.1 st.2 (by simp) hE
theorem zfM {l : Addr} {f : Value} {items : Array Value} {n : Nat} {Q : VP} (hl : s.heap.get? l = some (lobj items n)) (h : Q (.ref (mapH2 "list_iterator" s.heap l).objs.size) { s with heap := mapH3 "list_iterator" s.heap l f }) :
    wpAny (model prog w) A (call (.type "map") [f, .ref l]) Q E s :=
  callType_new ze5 (by decide) (zcJ _ _) (zdc _ _) (fun obj => PySem.F.args_object_init_3 obj _ _) zdi (zfA l f items n) ⟨hl, ⟨_, Heap.get?_push_size _ rfl, rfl⟩, h⟩
theorem zil {M t : Addr} {f : Value} {Q : VP} (hm : s.heap.get? M = some (mobj t f)) (h : Q (.ref M) s) : wpAny (model prog w) A (pyIter (.ref M)) Q E s := by
  have hT : s.TypeIs (.ref M) "map" := ⟨_, hm, rfl⟩
  refine wpAny_pyIter_slot hT zc8 (wpAny_call_entry zc8 hT zeF ?_ (zeo _))
  show wpAny _ _ (ret (.ref M)) _ _ s
  exact wpAny_pure ⟨_, rfl, "map", _, hT, slot_map_next.lookup, h⟩
theorem zlf {M t I : Addr} {f : Value} {k n i : Nat} {P : Nat → Value → Prop} {St : Nat → Heap → Prop} {fp : List Addr} {Q : Option Value → Shared → Prop} (D : Draws prog w A.in1 I fp n P St) (hm : s.heap.get? M = some (mobj t f)) (ht : s.heap.get? t = some (tobj #[.ref I] k)) (hst : St i s.heap) (hi : i < n) (hMI : M ≠ I)
    (hc : ∀ x h' tk, P i x → St (i + 1) h' → Heap.SameBut I s.heap h' → wpAny (model prog w) A.in1 (call f [x]) (fun v s' => Q (some v) s') (fun _ _ => False) { s with heap := h', toks := tk }) :
    wpAny (model prog w) A (pyNext (.ref M)) Q E s := by
  have hT : s.TypeIs (.ref M) "map" := ⟨_, hm, rfl⟩
  unfold pyNext
  refine wb (wpAny_attempt (wpAny_callSpecial?_slot (name := Str.ofString "__next__") hT slot_map_next (wpAny_call_entry slot_map_next hT zcN ?_ (zcr _))))
  show wpAny _ _ (field (.ref M) 0 >>= _) _ _ _
  refine wb (wpAny_field hm rfl (x := .ref t) rfl ?_)
  show wpAny _ _ (seqItems? (.ref t) >>= _) _ _ _
  refine wb (wpAny_seqItems ht rfl ?_)
  show wpAny _ _ (forIn #[Value.ref I] (#[] : Array Value) _ >>= _) _ _ _
  rw [← Array.forIn_toList]
  simp only [List.forIn_cons, List.forIn_nil]
  refine wb (wb (wb (wpAny_holding (D.item i _ _ _ hi hst fun x h' tk hP hst' hk => wpAny_pure ?_))))
  refine wpAny_pure ?_
  have hm' : h'.get? M = some (mobj t f) := (hk.2 M hMI).trans hm
  show wpAny _ _ (field (.ref M) 1 >>= _) _ _ { s with heap := h', toks := tk }
  refine wb (wpAny_field hm' rfl (x := f) rfl ?_)
  refine wb (wpAny_holding (wpAny_mono (hc x h' tk hP hst' hk) (fun v s' hv => ?_) fun _ _ h => h.elim))
  exact wb (wpAny_letGo (wpAny_pure ⟨v, rfl, wpAny_pure hv⟩))
theorem map_end {M t I : Addr} {f : Value} {k n : Nat} {P : Nat → Value → Prop} {St : Nat → Heap → Prop} {fp : List Addr} {Q : Option Value → Shared → Prop} (D : Draws prog w A.in1 I fp n P St) (hm : s.heap.get? M = some (mobj t f)) (ht : s.heap.get? t = some (tobj #[.ref I] k)) (hst : St n s.heap)
    (hQ : ∀ h', Heap.ExtBut I s.heap h' → Q none { s with heap := h' }) : wpAny (model prog w) A (pyNext (.ref M)) Q E s := by
  have hT : s.TypeIs (.ref M) "map" := ⟨_, hm, rfl⟩
  unfold pyNext
  refine wb (wpAny_attempt (wpAny_callSpecial?_slot (name := Str.ofString "__next__") hT slot_map_next (wpAny_call_entry slot_map_next hT zcN ?_ (zcr _))))
  show wpAny _ _ (field (.ref M) 0 >>= _) _ _ _
  refine wb (wpAny_field hm rfl (x := .ref t) rfl ?_)
  show wpAny _ _ (seqItems? (.ref t) >>= _) _ _ _
  refine wb (wpAny_seqItems ht rfl ?_)
  show wpAny _ _ (forIn #[Value.ref I] (#[] : Array Value) _ >>= _) _ _ _
  rw [← Array.forIn_toList]
  simp only [List.forIn_cons, List.forIn_nil]
  refine wb (wb (wb (wpAny_holding (D.done _ _ _ hst fun h' e he hx => ?_))))
  obtain ⟨o, ho, hc⟩ := hx
  refine wb (wpAny_isInstance (T := "StopIteration") (b := true) ⟨o, ho, hc⟩ isSubtype_stop ?_)
  exact wpAny_pure (hQ _ he)
end
section
variable {cx : XCx} {ε : Sc}
noncomputable def DrawsOf (cx : XCx) (I a : Addr) (vs : List Value) (St : Nat → Heap → Prop) : Prop := ∀ A' : Around, A'.handled = none → Draws cx.prog cx.w A' I [I, a] vs.toArray.size (fun i v => vs.toArray[i]? = some v) St
set_option genInjectivity false in
structure MapI (cx : XCx) (F₀ : AP) (s₀ : Shared) (St : Nat → Heap → Prop) (outs : List D) (I t M S : Addr) (f : Value) (j : Nat) (acc : Array Value) (F : AP) (s : Shared) : Prop where
  st : Step cx F₀ s₀ F s
  it : St j s.heap
  hm : s.heap.get? M = some (mobj t f)
  ht : ∃ k, s.heap.get? t = some (tobj #[.ref I] k)
  hS : ∃ c, s.heap.get? S = some (lobj acc c)
  rep : RepL cx.T F s.heap acc.toList (outs.take j)
  sz : acc.size = j
  nI : ¬ F I
  nS : ¬ F S
theorem zle (ok : CxOk cx) {i n : Nat} {cf : CfT} (calls : CallOK cx n cf) {A : Around} (bud : Bud n A.in1.in1) {F₀ : AP} {s₀ : Shared} (w₀ : Wd cx F₀ s₀) {a I t M S : Addr} {vs : List Value} {St : Nat → Heap → Prop} (Dw : DrawsOf cx I a vs St) {items outs : List D} (ho : items.map (fun d => cf i [d]) = outs.map some) (hq : RepL cx.T F₀ s₀.heap vs items)
    (hl : vs.length ≤ lim) (hMI : M ≠ I) (hSI : S ≠ I) (hSM : S ≠ M) (hSt : S ≠ t) (hSa : S ≠ a) (htI : t ≠ I) (nI : s₀.heap.get? I = none) (nS : s₀.heap.get? S = none) (xt : ¬ cx.X t) (xM : ¬ cx.X M) (xa : ¬ cx.X a) {R : Result → Shared → Prop} :
    ∀ (k j : Nat) (F : AP) (s : Shared) (acc : Array Value), vs.length - j = k → j ≤ vs.length → MapI cx F₀ s₀ St outs I t M S (.ref (cx.fa i)) j acc F s →
    (∀ F' s' acc' c', Step cx F₀ s₀ F' s' → s'.heap.get? S = some (lobj acc' c') → RepL cx.T F' s'.heap acc'.toList outs → acc'.size ≤ lim → R (.ok (.ret (.ref S))) s') →
    codeAny (model cx.prog cx.w) A (.builtin "list.extend.loop" ⟨[.ref S, .ref M, .ref S], []⟩) R s := by
  have xI := w₀.newNotX nI
  have xS := w₀.newNotX nS
  have hvl : vs.length = items.length := hq.length
  have hol : items.length = outs.length := by have := congrArg List.length ho; rwa [List.length_map, List.length_map] at this
  intro k
  induction k with
  | zero =>
    intro j F s acc hk hj J hR
    have hin : j = vs.length := Nat.le_antisymm hj (Nat.le_of_sub_eq_zero hk)
    obtain ⟨kt, ht⟩ := J.ht
    obtain ⟨c, hS⟩ := J.hS
    have hit : St vs.toArray.size s.heap := by rw [List.size_toArray, ← hin]; exact J.it
    refine codeAny_builtin PySem.F.entry_extend_loop ?_
    rw [Around.under_plainId PySem.F.plain_extend_loop _]
    show wpAny _ A.in1 (pyNext (.ref M) >>= _) _ _ s
    refine wb (map_end (A := A.in1) (Dw A.in1.in1 bud.hd) J.hm ht hit fun h' he => ?_)
    have st1 := J.st.kept ok w₀ (wr := (· = I)) (fun b hb => by subst hb; exact ⟨nI, J.nI⟩) s.toks (fun b o hb e => he b o hb e)
    have hr : RepL cx.T F h' acc.toList (outs.take j) := J.rep.mono (fun _ h => h) fun b o f e => he b o (fun q => J.nI (q ▸ f)) e
    rw [hin, hvl, hol, List.take_length] at hr
    exact wpAny_pure (hR F _ acc c st1 (he S _ hSI hS) hr (by rw [J.sz, hin]; exact hl))
  | succ k ih =>
    intro j F s acc hk hj J hR
    have hlt : j < vs.length := Nat.lt_of_sub_pos (by rw [hk]; exact Nat.succ_pos _)
    obtain ⟨kt, ht⟩ := J.ht
    obtain ⟨c, hS⟩ := J.hS
    refine codeAny_builtin PySem.F.entry_extend_loop ?_
    rw [Around.under_plainId PySem.F.plain_extend_loop _]
    show wpAny _ A.in1 (pyNext (.ref M) >>= _) _ _ s
    refine wb (zlf (A := A.in1) (Dw A.in1.in1 bud.hd) J.hm ht J.it (by rw [List.size_toArray]; exact hlt) hMI fun x h' tk hx hit' hk' => ?_)
    replace hx : vs.toArray[j]? = some x := hx
    rw [List.getElem?_toArray] at hx
    have st1 := J.st.kept ok w₀ (wr := (· = I)) (fun b hb => by subst hb; exact ⟨nI, J.nI⟩) tk (fun b o hb e => (hk'.2 b hb).trans e)
    obtain ⟨d, hd, hr⟩ := hq.getV hx
    have hlo : j < outs.length := by rw [← hol, ← hvl]; exact hlt
    have hc : cf i [d] = some outs[j] := by
      have := congrArg (·[j]?) ho
      simp only [List.getElem?_map, hd, List.getElem?_eq_getElem hlo, Option.map_some] at this
      exact Option.some.inj this
    refine wpAny_call ((calls.call i [d] _ hc).2 A.in1.in1 F _ [x] bud st1.wd (.cons (st1.rep w₀ hr) .nil) _ fun v F2 s2 st2 rv => ?_)
    show wpAny _ A.in1 (updateSeq S (·.push v) >>= _) _ _ s2
    have hS1 : h'.get? S = some (lobj acc c) := (hk'.2 S hSI).trans hS
    have hS2 := st2.keep S _ hS1 xS
    have nS2 : ¬ F2 S := st2.notF J.nS hS1
    obtain ⟨oI, gI⟩ := (Dw A.in1.in1 bud.hd).live _ _ hit'
    have nI2 : ¬ F2 I := st2.notF J.nI gI
    have oth : ∀ b o, b ≠ S → s2.heap.get? b = some o → (s2.heap.update S (Obj.mapSeq (·.push v))).get? b = some o := fun b o hb e => (Heap.get?_update_other _ _ (Ne.symm hb)).trans e
    have st3 := (st1.trans st2).kept ok w₀ (wr := (· = S)) (fun b hb => by subst hb; exact ⟨nS, nS2⟩) s2.toks oth
    have r1 : RepL cx.T F h' acc.toList (outs.take j) := J.rep.mono (fun _ h => h) fun b o f e => (hk'.2 b (fun q => J.nI (q ▸ f))).trans e
    have r2 := (st2.repL st1.wd r1).append (.cons rv .nil)
    have r3 : RepL cx.T F2 (s2.heap.update S (Obj.mapSeq (·.push v))) (acc.push v).toList (outs.take (j + 1)) := by
      rw [Array.toList_push, List.take_add_one, List.getElem?_eq_getElem hlo]
      exact r2.mono (fun _ h => h) fun b o f e => oth b o (fun q => nS2 (q ▸ f)) e
    have zj : acc.size ≤ lim := by rw [J.sz]; exact Nat.le_trans hj hl
    refine wb (wpAny_updateSeq hS2 rfl (wpAny_pure ⟨plainId_quiet PySem.F.plain_extend_loop _, ih (j + 1) F2 _ (acc.push v) (by rw [Nat.sub_succ, hk]; rfl) hlt ⟨st3, (Dw A.in1.in1 bud.hd).frame _ _ _ hit' (List.forall_mem_cons.mpr ⟨fun o e => oth I o (Ne.symm hSI) (st2.keep I o e xI), List.forall_mem_cons.mpr ⟨fun o e => oth a o (Ne.symm hSa) (st2.keep a o e xa), fun _ h => nomatch h⟩⟩), oth M _ (Ne.symm hSM) (st2.keep M _ ((hk'.2 M hMI).trans J.hm) xM), ⟨kt, oth t _ (Ne.symm hSt) (st2.keep t _ ((hk'.2 t htI).trans ht) xt)⟩, ⟨_, Heap.get?_update_self _ hS2 rfl⟩, r3, by rw [Array.size_push, J.sz], nI2, nS2⟩ hR⟩) (zaC zj) (by rw [Array.size_push]; exact Nat.succ_le_succ (zaC zj)))
theorem zl2 {n : Nat} {A : Around} (b : BudE n A) : Bud n A.in1.in1.in1.in1 := ⟨b.hd, b.dp, by have := b.sl; show A.units + 1 + 1 + 1 + 1 + 10 * n + 200 < 9900; omega, b.fs⟩
set_option genInjectivity false in
structure MapS (cx : XCx) (F : AP) (s : Shared) (a : Addr) (vs : List Value) (f : Value) (M : Addr) (s₁ : Shared) : Prop where
  st : Step cx F s F s₁
  ex : ∃ I t St, I < M ∧ t < M ∧ t ≠ I ∧ s.heap.get? I = none ∧ s.heap.get? t = none ∧ s.heap.get? M = none ∧ DrawsOf cx I a vs St ∧ St 0 s₁.heap ∧ s₁.heap.get? M = some (mobj t f) ∧ ∃ k, s₁.heap.get? t = some (tobj #[.ref I] k)
theorem zgk (ok : CxOk cx) {F : AP} {s : Shared} (w : Wd cx F s) {a : Addr} {vs : List Value} {o : Obj} {f : Value} (g : s.heap.get? a = some o) (c : String) {St : Nat → Heap → Prop} (Dw : DrawsOf cx s.heap.objs.size a vs St) (h0 : St 0 (mapH3 c s.heap a f)) :
    MapS cx F s a vs f (mapH2 c s.heap a).objs.size { s with heap := mapH3 c s.heap a f } := by
  refine ⟨Step.grown ok w s.toks fun _ _ e => Heap.get?_push_of_some _ (Heap.get?_push_of_some _ (Heap.get?_push_of_some _ e)), s.heap.objs.size, (mapH1 c s.heap a).objs.size, St, ?_, ?_, ?_, zar _, ?_, ?_, Dw, h0, ?_, 0, ?_⟩
  · show s.heap.objs.size < (mapH2 c s.heap a).objs.size
    rw [Heap.size_push, Heap.size_push]; exact Nat.lt_succ_of_lt (Nat.lt_succ_self _)
  · have e := Heap.size_push (mapH1 c s.heap a) ({ cls := .type "tuple", data := .seq #[.ref s.heap.objs.size] } : Obj)
    show (mapH1 c s.heap a).objs.size < ((mapH1 c s.heap a).push _).objs.size
    rw [e]; exact Nat.lt_succ_self _
  · rw [Heap.size_push]; exact Nat.succ_ne_self _
  · cases e : s.heap.get? (mapH1 c s.heap a).objs.size with
    | none => rfl
    | some o => have := Heap.lt_size e; rw [Heap.size_push] at this; exact absurd this (Nat.not_lt.mpr (Nat.le_succ _))
  · cases e : s.heap.get? (mapH2 c s.heap a).objs.size with
    | none => rfl
    | some o => have := Heap.lt_size e; rw [Heap.size_push, Heap.size_push] at this; exact absurd this (Nat.not_lt.mpr (Nat.le_succ_of_le (Nat.le_succ _)))
  · exact Heap.get?_push_size _ rfl
  · exact Heap.get?_push_of_some _ (Heap.get?_push_size _ rfl)
theorem zld (ok : CxOk cx) {A : Around} {F : AP} {s : Shared} (w : Wd cx F s) {a : Addr} {vs : List Value} {n : Nat} {f : Value} (g : s.heap.get? a = some (lobj vs.toArray n)) {Q E : VP}
    (hQ : ∀ M s₁, MapS cx F s a vs f M s₁ → Q (.ref M) s₁) : wpAny (model cx.prog cx.w) A (call (.type "map") [f, .ref a]) Q E s :=
  zfM g (hQ _ _ (zgk ok w g "list_iterator" (fun A' hh => Draws.list hh _ a (Nat.ne_of_lt (Heap.lt_size g)) vs.toArray) ⟨⟨_, Heap.get?_push_of_some _ (Heap.get?_push_of_some _ (Heap.get?_push_size _ rfl)), rfl, rfl⟩, zaB (Heap.get?_push_of_some _ (Heap.get?_push_of_some _ (Heap.get?_push_of_some _ g)))⟩))
theorem zjO (ok : CxOk cx) {A : Around} {F : AP} {s : Shared} (w : Wd cx F s) {a : Addr} {vs : List Value} {n : Nat} {f : Value} (g : s.heap.get? a = some (tobj vs.toArray n)) {Q E : VP}
    (hQ : ∀ M s₁, MapS cx F s a vs f M s₁ → Q (.ref M) s₁) : wpAny (model cx.prog cx.w) A (call (.type "map") [f, .ref a]) Q E s :=
  zgG g (hQ _ _ (zgk ok w g "tuple_iterator" (fun A' hh => zlt hh _ a (Nat.ne_of_lt (Heap.lt_size g)) vs.toArray) ⟨⟨_, Heap.get?_push_of_some _ (Heap.get?_push_of_some _ (Heap.get?_push_size _ rfl)), rfl, rfl⟩, ⟨_, Heap.get?_push_of_some _ (Heap.get?_push_of_some _ (Heap.get?_push_of_some _ g)), rfl, n, rfl⟩⟩))
theorem zhe (ok : CxOk cx) {i n : Nat} {cf : CfT} (calls : CallOK cx n cf) {A : Around} (bud : Bud n A.in1.in1) {F : AP} {s s₁ : Shared} (w : Wd cx F s) {a M : Addr} {vs : List Value} {items outs : List D} {oa : Obj} (ga : s.heap.get? a = some oa) (xa : ¬ cx.X a) (ho : items.map (fun d => cf i [d]) = outs.map some) (hq : RepL cx.T F s.heap vs items) (hl : vs.length ≤ lim)
    (J : MapS cx F s a vs (.ref (cx.fa i)) M s₁) {Q : List Value → Shared → Prop} {E : VP} (hQ : ∀ vs' F' s', Step cx F s F' s' → RepL cx.T F' s'.heap vs' outs → vs'.length ≤ lim → Q vs' s') : wpAny (model cx.prog cx.w) A (collect (.ref M)) Q E s₁ := by
  obtain ⟨I, t, St, hIM, htM, htI, nI, nt, nM, Dw, hit, hm, kt, ht⟩ := J.ex
  have hT : s₁.TypeIs (.ref M) "map" := ⟨_, hm, rfl⟩
  have xM := w.newNotX nM
  have xt := w.newNotX nt
  have hMS : M < s₁.heap.objs.size := Heap.lt_size hm
  have hSM : s₁.heap.objs.size ≠ M := Nat.ne_of_gt hMS
  have hSI : s₁.heap.objs.size ≠ I := Nat.ne_of_gt (Nat.lt_trans hIM hMS)
  have hSt : s₁.heap.objs.size ≠ t := Nat.ne_of_gt (Nat.lt_trans htM hMS)
  have hSa : s₁.heap.objs.size ≠ a := Nat.ne_of_gt (Heap.lt_size (J.st.keep a _ ga xa))
  have nS : s.heap.get? s₁.heap.objs.size = none := J.st.fresh (J.st.wd.newNotX (zar _)) (zar _)
  unfold collect
  refine wb (wpAny_runValue (codeAny_builtin PySem.F.entry_proto_collect ?_))
  rw [Around.under_plainId PySem.F.plain_proto_collect _]
  show wpAny _ A.in1 (newList [] >>= fun l => again (.builtin "list.__iadd__" ⟨[l, .ref M], []⟩)) _ _ s₁
  refine wb (wpAny_newObj_type ?_)
  refine wpAny_pure ⟨plainId_quiet PySem.F.plain_list_iadd _, codeAny_builtin PySem.F.entry_list_iadd ?_⟩
  rw [Around.under_plainId PySem.F.plain_list_iadd _]
  show wpAny _ A.in1 (Builtin.List.listExtendWith (.ref s₁.heap.objs.size) (.ref M) (.ref s₁.heap.objs.size)) _ _ _
  unfold Builtin.List.listExtendWith
  have st1 := J.st.trans (Step.push ok J.st.wd ({ cls := .type "list", data := .seq ([] : List Value).toArray } : Obj) s₁.toks)
  have hm1 : (s₁.heap.push { cls := .type "list", data := .seq ([] : List Value).toArray }).get? M = some (mobj t (.ref (cx.fa i))) := Heap.get?_push_of_some _ hm
  have hT1 : Shared.TypeIs { s₁ with heap := s₁.heap.push { cls := .type "list", data := .seq ([] : List Value).toArray } } (.ref M) "map" := ⟨_, hm1, rfl⟩
  refine wb (wpAny_typeOf hT1 ?_)
  have h1 : Builtin.List.listSameRef (.ref s₁.heap.objs.size) (.ref M) = false := by simp [Builtin.List.listSameRef, hSM]
  have h2 : (Value.type "map" == Value.type "list") = false := by decide
  have h3 : (Value.type "map" == Value.type "tuple") = false := by decide
  simp only [h1, h2, h3, Bool.or_false, Bool.false_eq_true, if_false]
  refine wb (zil hm1 ?_)
  refine wb (wpAny_holding ?_)
  unfold Builtin.List.listLengthHint
  refine wb (wpAny_specialOf hT1 zit ?_)
  show wpAny _ A.in1 (specialOf (Value.ref M) (Str.ofString "__length_hint__") >>= _) _ _ _
  refine wb (wpAny_specialOf hT1 zhd ?_)
  refine wpAny_pure ?_
  show wpAny _ A.in1 (rule "list.extend.makes-room" >>= fun _ => Builtin.List.listTouch (.ref s₁.heap.objs.size) >>= fun _ =>
    again (.builtin "list.extend.loop" ⟨[.ref s₁.heap.objs.size, .ref M, .ref s₁.heap.objs.size], []⟩)) _ _ _
  refine wb (wpAny_rule ?_)
  have hS₁ : (s₁.heap.push { cls := .type "list", data := .seq ([] : List Value).toArray }).get? s₁.heap.objs.size = some { cls := .type "list", data := .seq ([] : List Value).toArray } := Heap.get?_push_size _ rfl
  refine wb ?_
  show wpAny _ A.in1 (updateSeq s₁.heap.objs.size (·.push .none) >>= fun _ => updateSeq s₁.heap.objs.size (·.pop)) _ _ _
  refine wb (wpAny_updateSeq hS₁ rfl ?_)
  have hS₂ := Heap.get?_update_self (Obj.mapSeq (·.push Value.none)) hS₁ rfl
  refine wpAny_updateSeq hS₂ rfl ?_
  have hS₃ := Heap.get?_update_self (Obj.mapSeq (·.pop)) hS₂ rfl
  have oth : ∀ b o, b ≠ s₁.heap.objs.size → (s₁.heap.push { cls := .type "list", data := .seq ([] : List Value).toArray }).get? b = some o →
      (((s₁.heap.push { cls := .type "list", data := .seq ([] : List Value).toArray }).update s₁.heap.objs.size (Obj.mapSeq (·.push Value.none))).update s₁.heap.objs.size (Obj.mapSeq (·.pop))).get? b = some o :=
    fun b o hb e => (Heap.get?_update_other _ _ (Ne.symm hb)).trans ((Heap.get?_update_other _ _ (Ne.symm hb)).trans e)
  have nFS : ¬ F s₁.heap.objs.size := J.st.wd.newNotF (zar _)
  have st2 := st1.kept ok w (wr := (· = s₁.heap.objs.size)) (fun b hb => by subst hb; exact ⟨nS, nFS⟩) s₁.toks oth
  have up : ∀ b o, b ≠ s₁.heap.objs.size → s₁.heap.get? b = some o → _ := fun b o hb e => oth b o hb (Heap.get?_push_of_some _ e)
  refine wpAny_pure ⟨plainId_quiet PySem.F.plain_extend_loop _, zle ok calls bud w Dw ho hq hl (Nat.ne_of_gt hIM) hSI hSM hSt hSa htI nI nS xt xM xa vs.length 0 F _ #[] rfl (Nat.zero_le _) ⟨st2, (Dw A bud.hd).frame _ _ _ hit (List.forall_mem_cons.mpr ⟨fun o e => up I o (Ne.symm hSI) e, List.forall_mem_cons.mpr ⟨fun o e => up a o (Ne.symm hSa) e, fun _ h => nomatch h⟩⟩), up M _ (Ne.symm hSM) hm, ⟨kt, up t _ (Ne.symm hSt) ht⟩, ⟨_, hS₃⟩, .nil, rfl, w.newNotF nI, nFS⟩ fun F' s' acc' c' st' hS' hr hz => ?_⟩
  show wpAny _ A (load s₁.heap.objs.size >>= _) _ _ s'
  refine wb (wpAny_load hS' ?_)
  exact wpAny_pure (hQ _ F' s' st' hr (by rw [Array.length_toList]; exact hz))
theorem zfZ (ok : CxOk cx) {i n : Nat} {cf : CfT} (calls : CallOK cx n cf) {A : Around} (bud : Bud n A.in1.in1.in1.in1) {F : AP} {s s₁ : Shared} (w : Wd cx F s) {a M : Addr} {vs : List Value} {items outs : List D} {oa : Obj} (ga : s.heap.get? a = some oa) (xa : ¬ cx.X a) (ho : items.map (fun d => cf i [d]) = outs.map some) (hq : RepL cx.T F s.heap vs items) (hl : vs.length ≤ lim)
    (J : MapS cx F s a vs (.ref (cx.fa i)) M s₁) {Q E : VP} (hQ : Post cx F s (.val (.tup outs)) Q) : wpAny (model cx.prog cx.w) A (call (.type "tuple") [.ref M]) Q E s₁ := by
  refine callType_codes (Q₁ := fun obj s₂ => s₂.TypeIs obj "tuple" ∧ Q obj s₂) PySem.F.called_tuple (PySem.F.typeCall_tuple_1 _) PySem.F.entry_object_init ?_ fun obj s₂ h₂ => ⟨h₂.1, PySem.F.args_object_init_2 obj _, object_init_meets PySem.F.called_tuple.init.lookup PySem.F.called_tuple.made (by decide) _ _ A.in1 _ s₂ ⟨h₂.1, rfl, h₂.2⟩⟩
  refine codeAny_of_tree ?_
  show wpAny _ A.in1.in1 (do checkBuiltinCall "tuple.__new__" ⟨[.type "tuple", .ref M], []⟩; again (.builtin "tuple.__new__" ⟨[.type "tuple", .ref M], []⟩)) _ _ s₁
  refine wb (wpAny_of_eq (PySem.F.newCall_tuple_1 _) (wpAny_pure ⟨plainId_quiet PySem.F.plain_tuple_new _, codeAny_builtin PySem.F.entry_tuple_new ?_⟩))
  rw [Around.under_plainId PySem.F.plain_tuple_new _]
  have hsub := sub_tuple_self
  have hinit := init_tuple_lookup
  have hmh := madeHere_tuple
  have hTI : s₁.TypeIs (.ref M) "map" := by
    obtain ⟨I, t, _, _, _, _, _, _, _, _, _, hm, _⟩ := J.ex
    exact ⟨_, hm, rfl⟩
  wp_walk using wpAny_typeOf hTI, zhe ok calls bud w ga xa ho hq hl J
  intro vs' F' s' st' hr hz
  show wpAny _ _ (Builtin.Tuple.tupleExact vs'.toArray >>= fun v => ret v) _ _ _
  unfold Builtin.Tuple.tupleExact
  obtain ⟨F3, st3, r⟩ := zfo ok st'.wd s'.toks hz hr
  refine wb (wpAny_newObj_type ?_ (by show vs'.toArray.size ≤ sizeLine; rw [List.size_toArray]; exact zaC hz))
  exact wpAny_pure ⟨⟨_, Heap.get?_push_size _ rfl, rfl⟩, hQ _ F3 _ (st'.trans st3) (.val r)⟩
theorem zdy {α : Type} : ∀ {l : List (Option α)} {o : List α}, allSome l = some o → l = o.map some
  | [], o, h => by cases h; rfl
  | none :: l, o, h => by cases h
  | some a :: l, o, h => by
    obtain ⟨r, h1, rfl⟩ := Option.map_eq_some_iff.mp (show (allSome l).map (a :: ·) = some o from h)
    rw [List.map_cons, ← zdy h1]
theorem zeN {f : Str} {i : Nat} {p p' p'' pos' pos : Pos} {e : Expr} {x : X} (hk : ε.kinds.lookup ("tuple" : Str) = some .globalImplicit) (hg : cx.mg ("tuple" : Str) = none) (hk' : ε.kinds.lookup ("map" : Str) = some .globalImplicit) (hg' : cx.mg ("map" : Str) = none) (hkf : ε.kinds.lookup f = some .globalImplicit) (hvf : cx.mg f = some (.ref (cx.fa i))) (hd : (f == ("__debug__" : Str)) = false) (h : Sound cx ε e x) (hs : starred e = false) :
    Sound cx ε (.Call (.Name "tuple" p) [.Call (.Name "map" p') [.Name f p'', e] [] pos'] [] pos) (.mapF i x) := by
  refine Sound.ofE ?_ fun _ => rfl
  intro n cf A env F s ρ ad m cm H res he Q E hQ
  obtain ⟨r, items, outs, e1, e2, ho, rfl⟩ : ∃ r items outs, ev cf x ρ = some [r] ∧ (r.ds = .list items ∨ r.ds = .tup items) ∧ items.map (fun d => cf i [d]) = outs.map some ∧ res = .val (.tup outs) := by
    replace he := (za1 _).symm.trans he
    split at he
    · rename_i r e1
      split at he
      · rename_i items e2
        obtain ⟨l, e7, e8⟩ := Option.map_eq_some_iff.mp he
        cases e8
        exact ⟨r, items, l, e1, .inl e2, zdy e7, rfl⟩
      · rename_i items e2
        obtain ⟨l, e7, e8⟩ := Option.map_eq_some_iff.mp he
        cases e8
        exact ⟨r, items, l, e1, .inr e2, zdy e7, rfl⟩
      · cases he
    · cases he
  rw [zav (by intro _ _ _ e; cases e)]
  refine wb (zaK H hk hg (by decide) (v := .type "tuple") (by rfl) (by decide) ?_)
  rw [zan rfl, zau]
  refine PyProof.Rows.callWith_type rfl (Calls.evalArgs_plain (Calls.spliced_cons ?_))
  rw [zav (by intro _ _ _ e; cases e)]
  refine wb (zaK H hk' hg' (by decide) (v := .type "map") (by rfl) (by decide) ?_)
  rw [zan rfl, zau]
  refine PyProof.Rows.callWith_type (by rw [zan hs, zau]; rfl) (Calls.evalArgs_plain (Calls.spliced_cons ?_))
  refine zb0 H hkf hvf hd ?_
  rw [zan hs, zau]
  refine Calls.spliced_cons ?_
  refine h.ev n cf A env F s ρ ad m cm H r e1 _ _ fun v F' s' st q => ?_
  refine Calls.spliced_nil ?_
  have qb := q.brep
  rcases e2 with e2 | e2
  · rw [e2] at qb
    obtain ⟨a, vs, k, rfl, nx, g, z, ql⟩ := qb.list_inv st.wd
    refine zld H.ok st.wd g fun M s₁ J => Calls.spliced_nil ?_
    exact zfZ H.ok H.calls (zl2 H.bud) st.wd g nx ho ql z J fun v F3 s3 st3 rr => hQ v F3 s3 (st.trans st3) (rr.low st)
  · rw [e2] at qb
    cases qb with
    | rep q =>
      cases q with
      | @tup a vs k _ f g z ql =>
        refine zjO H.ok st.wd g fun M s₁ J => Calls.spliced_nil ?_
        exact zfZ H.ok H.calls (zl2 H.bud) st.wd g (st.wd.nx _ f) ho ql z J fun v F3 s3 st3 rr => hQ v F3 s3 (st.trans st3) (rr.low st)
end
end Mine
end
section
open PySem PySem.Calls PyProof.Rows PySem.Builtin.Str PySem.SeqAt
namespace Mine
noncomputable def hashB (b : Bool) : Int := if b then 1 else 0
section
variable {prog : Program} {w : World} {A : Around} {E : VP} {s : Shared}
theorem zd3 {b : Bool} {Q : Int → Shared → Prop} (h : Q (hashB b) { s with toks := s.toks + 1 }) : wpAny (model prog w) A (pyHash (.bool b)) Q E s := by
  have hT : s.TypeIs (.bool b) "bool" := rfl
  unfold pyHash
  have hv : [Value.bool b].any Value.onHeap = false := rfl
  refine wb ?_
  rw [cRoomFor, if_neg (by rw [hv]; exact Bool.false_ne_true)]; refine wpAny_pure ?_
  refine wb (wpAny_specialOf hT PySem.F.slot_bool_hash.lookup ?_)
  show wpAny _ _ (if (some (Value.builtin "int.__hash__") == some Value.none) = true then _ else _) Q E s
  rw [if_neg (by rw [beq_builtin_none]; exact Bool.false_ne_true)]
  refine wb (wpAny_specialOf hT PySem.F.slot_bool_hash.lookup ?_)
  show wpAny _ _ (callSpecialIfBoundUnlessNone? (.bool b) "__hash__" _ >>= _) Q E s
  refine wb (wpAny_callSpecialIfBoundUnlessNone?_slot hT PySem.F.slot_bool_hash (wpAny_call_entry PySem.F.slot_bool_hash hT entry_int_hash ?_ (args_int_hash _)))
  cases b with
  | true =>
    show wpAny _ _ (do ret (← mkInt 1)) _ _ s
    exact wpAny_ret_mkInt (wpAny_pure h)
  | false =>
    show wpAny _ _ (do ret (← mkInt 0)) _ _ s
    exact wpAny_ret_mkInt (wpAny_pure h)
end
noncomputable def sT (led b : Bool) : SetTable := (layNew (SetTable.fresh 0 0 led) #[] (hashB b) (.bool b)).2.1
noncomputable def sObj0 (led : Bool) : Obj := { cls := .type "set", dict := none, data := .set #[] 0 (.fresh 0 0 led) }
noncomputable def sObj1 (led b : Bool) : Obj := { cls := .type "set", dict := none, data := .set #[(hashB b, .bool b)] 1 (sT led b) }
theorem sT_lay (led b : Bool) : layNew (SetTable.fresh 0 0 led) #[] (hashB b) (.bool b) = (#[(hashB b, .bool b)], sT led b, false, false) := by
  cases led <;> cases b <;> kernel_rfl
theorem zcS (led b : Bool) : (sT led b).fits 1 = true := by cases led <;> cases b <;> kernel_rfl
theorem zdU (led b : Bool) : (sT led b).plain = true := by cases led <;> cases b <;> kernel_rfl
theorem sT_full (led b : Bool) : (sT led b).tooFull = false := by cases led <;> cases b <;> kernel_rfl
theorem zlF (led b : Bool) : (sT led b).led = led := by cases led <;> cases b <;> kernel_rfl
theorem zhC (led b : Bool) : (sT led b).place = #[(sT led b).place.getD 0 0] := by cases led <;> cases b <;> kernel_rfl
theorem scan0 (b : Bool) : byScan (.bool b) #[] = true := by cases b <;> kernel_rfl
theorem scan1 (b : Bool) : byScan (.bool b) #[(hashB b, .bool b)] = true := by cases b <;> kernel_rfl
section
variable {prog : Program} {w : World} {A : Around} {E : VP} {s : Shared}
theorem new_set {Q : VP} (h : Q (.ref s.heap.objs.size) { s with heap := s.heap.push (sObj0 (!w.params.followText "set-order")) }) : wpAny (model prog w) A (newSet (.type "set")) Q E s := by
  unfold newSet setsByText
  refine wb (wb (wpAny_askSetting (wpAny_pure ?_)))
  dsimp only
  simp only [newObj]
  exact wb (wpAny_alloc (wpAny_pure h))
theorem zkF {a : Addr} {led b : Bool} {Q : VP} (g : s.heap.get? a = some (sObj0 led))
    (h : Q .none { s with heap := s.heap.update a (Obj.putSet #[(hashB b, .bool b)] (sT led b)), toks := s.toks + 1 }) : wpAny (model prog w) A (call (.builtin "set.add") [.ref a, .bool b]) Q E s := by
  have hT : s.TypeIs (.ref a) "set" := ⟨_, g, rfl⟩
  refine wpAny_call_entry PySem.F.slot_set_add hT PySem.F.entry_set_add ?_ (PySem.F.args_set_add_2 _ _)
  unfold Builtin.«set.add» Builtin.Frozenset.oneOther
  simp only [List.isEmpty_nil, bind_assoc]
  unfold Builtin.Frozenset.addrOf setAdd
  refine wb (wpAny_pure ?_)
  try dsimp only
  refine wb (wpAny_pure ?_)
  try dsimp only
  refine wb ?_
  refine wpAny_holding ?_
  refine wb (zd3 ?_)
  unfold setAddHashed setAddHashedIn
  have g' : ({ s with toks := s.toks + 1 } : Shared).heap.get? a = some (sObj0 led) := g
  refine wpAny_holding (wb (wpAny_setState_of g' rfl rfl ?_))
  dsimp only
  generalize (99999 : Nat) = fu
  rw [scan0]
  simp only [↓reduceIte]
  unfold setAddByScan
  refine wb ?_
  refine wb (wpAny_rule ?_)
  have e1 : setScan a (.bool b) (hashB b) true #[] = pure ScanMet.absent := rfl
  rw [e1, sT_lay]
  have hp := zdU led b
  have hf := sT_full led b
  have hs : (sT led b).fits 1 = true := zcS led b
  generalize sT led b = t1 at h hp hf hs ⊢
  simp only [pure_bind, hp, if_true]
  refine wb (show wpAny _ _ (pure ()) _ _ _ from wpAny_pure ?_)
  refine wb (show wpAny _ _ (pure true) _ _ _ from wpAny_pure ?_)
  simp only [if_true]
  refine wb (wpAny_storeSet_of g' rfl ?_ (by show 1 ≤ sizeLine; decide))
  simp only [hf, Bool.not_false, Bool.and_false, Bool.false_eq_true, if_false]
  refine wpAny_pure (wpAny_pure ?_)
  show wpAny _ _ (ret Value.none) _ _ _
  exact wpAny_pure ⟨_, rfl, h⟩
theorem zkG {a : Addr} {led b : Bool} {Q : VP} (g : s.heap.get? a = some (sObj1 led b)) (h : Q .none { s with toks := s.toks + 1 }) : wpAny (model prog w) A (call (.builtin "set.add") [.ref a, .bool b]) Q E s := by
  have hT : s.TypeIs (.ref a) "set" := ⟨_, g, rfl⟩
  refine wpAny_call_entry PySem.F.slot_set_add hT PySem.F.entry_set_add ?_ (PySem.F.args_set_add_2 _ _)
  unfold Builtin.«set.add» Builtin.Frozenset.oneOther
  simp only [List.isEmpty_nil, bind_assoc]
  unfold Builtin.Frozenset.addrOf setAdd
  refine wb (wpAny_pure ?_)
  try dsimp only
  refine wb (wpAny_pure ?_)
  try dsimp only
  refine wb ?_
  refine wpAny_holding ?_
  refine wb (zd3 ?_)
  unfold setAddHashed setAddHashedIn
  have g' : ({ s with toks := s.toks + 1 } : Shared).heap.get? a = some (sObj1 led b) := g
  have hs := zcS led b
  refine wpAny_holding (wb (wpAny_setState_of g' rfl hs ?_))
  dsimp only
  generalize (99999 : Nat) = fu
  rw [scan1]
  simp only [↓reduceIte]
  unfold setAddByScan
  refine wb ?_
  refine wb (wpAny_rule ?_)
  refine wb (m := setScan a (.bool b) (hashB b) true _) ?_
  show wpAny _ _ (setScanFrom a (.bool b) (hashB b) true [(hashB b, .bool b)] 0) _ _ _
  unfold setScanFrom
  rw [if_pos (beq_self_eq_true _)]
  unfold setEpoch
  refine wb (wb (wpAny_setState_of g' rfl hs (wpAny_pure ?_)))
  refine wb (EqAt.bool_bool b b _ _ _ _ ?_)
  rw [beq_self_eq_true]
  simp only [Bool.and_self, if_true]
  refine wpAny_pure (wpAny_pure (wpAny_pure ?_))
  show wpAny _ _ (ret Value.none) _ _ _
  exact wpAny_pure ⟨_, rfl, h⟩
end
end Mine
end
section
open PySem PySem.Calls PyProof.Rows PySem.Builtin.Str PySem.SeqAt
open AutoSeq1 (wpAny_loadPart')
namespace Mine
theorem zeE : entryFor table "set.__iter__" = some PySem.Builtin.«frozenset.__iter__» :=
  entryFor_alias (id' := "frozenset.__iter__") (by kernel_rfl) rfl (by decide +kernel) (by kernel_rfl)
theorem slot_setit_next : PySem.Slot "set_iterator" "__next__" "set_iterator.__next__" :=
  .of (owner := "set_iterator") (n := "__next__") (by rw [typeLookup_type, builtinLookup_eq_fast]; kernel_rfl) (by decide +kernel) (by decide +kernel) (by decide +kernel)
    (by first | exact .inl (by decide +kernel) | exact .inr (by decide +kernel)) (by rw [isSubtype_type]; kernel_rfl)
theorem zcd : entryFor table "set_iterator.__next__" = some PySem.Builtin.«set_iterator.__next__» := entryFor_of_tree (by kernel_rfl)
theorem zbT (a : Value) : argsOk "set_iterator.__next__" ⟨[a], []⟩ := by unfold argsOk; kernel_rfl
noncomputable abbrev itobj (a : Addr) (slot i : Nat) : Obj := { cls := .type "set_iterator", data := .fields #[rawInt slot, rawInt i, .ref a, rawInt 1, rawInt 1] }
section
variable {prog : Program} {w : World} {A : Around} {E : VP} {s : Shared}
theorem zkP {a : Addr} {led b : Bool} {Q : VP} (g : s.heap.get? a = some (sObj1 led b)) (h : Q (.ref s.heap.objs.size) { s with heap := s.heap.push (itobj a 0 0) }) : wpAny (model prog w) A (pyIter (.ref a)) Q E s := by
  have hT : s.TypeIs (.ref a) "set" := ⟨_, g, rfl⟩
  have hs := zcS led b
  have hp := zdU led b
  refine wpAny_pyIter_slot hT PySem.F.slot_set_iter (wpAny_call_entry PySem.F.slot_set_iter hT zeE ?_ (PySem.F.args_set_iter_1 _))
  unfold Builtin.«frozenset.__iter__» Builtin.Frozenset.slot0 slotArgs
  simp only [List.isEmpty_nil, Bool.not_true, Bool.false_eq_true, ↓reduceIte, bind_assoc, List.length_nil, bne_self_eq_false]
  unfold Builtin.Frozenset.addrOf Builtin.Frozenset.sizeOf
  refine wb (wpAny_pure ?_)
  try dsimp only
  refine wb (wpAny_pure ?_)
  refine wb (wb (wpAny_setEntries_of g rfl hs (wpAny_pure ?_)))
  unfold setDrawn
  refine wb (wb (wpAny_setState_of g rfl hs ?_))
  dsimp only
  unfold setsByText
  refine wb (wb (wpAny_askSetting (wpAny_pure ?_)))
  refine wpAny_pure ?_
  have hdr : ∀ c : Bool, ¬ (!c && (!(sT led b).plain && decide (1 > 1))) = true := fun c => by rw [hp]; cases c <;> decide
  show wpAny _ _ (if (!w.params.followText "set-order" && (!(sT led b).plain && decide (1 > 1))) = true then _ else _) _ _ _
  rw [if_neg (hdr _)]
  refine wb (wpAny_pure ?_)
  unfold setEpoch
  refine wb (wb (wpAny_setState_of g rfl hs (wpAny_pure ?_)))
  unfold newFields
  refine wb (wpAny_newObj_type ?_)
  exact wpAny_pure ⟨_, rfl, "set_iterator", _, ⟨_, Heap.get?_push_size _ rfl, rfl⟩, slot_setit_next.lookup, h⟩
theorem pick1 {α : Type} (f : Nat → Nat) (x : α) : pickOrder f #[x] = #[x] := by
  show pickOrder.go f 1 0 [x] #[] = #[x]
  unfold pickOrder.go
  rw [show [x][f 0 % [x].length]? = some x by rw [show [x].length = 1 from rfl, Nat.mod_one]; rfl]
  rfl
noncomputable def slotB (w : World) (led b : Bool) : Nat := if w.params.followText "set-order" = true then 0 else (sT led b).place.getD 0 0 + 1
theorem below0 (p : Nat) : SetTable.below #[p] 0 = 0 := rfl
theorem below1 (p : Nat) : SetTable.below #[p] (p + 1) = 1 := by
  show SetTable.below.go #[p] (p + 1) 1 0 1 = 1
  unfold SetTable.below.go
  simp [SetTable.below.go]
theorem zje {a : Addr} {led b : Bool} {Q : Option (Value × Nat) → Shared → Prop} (hl : led = !w.params.followText "set-order") (g : s.heap.get? a = some (sObj1 led b)) (h : Q (some (.bool b, slotB w led b)) s) : wpAny (model prog w) A (setNext a 0 0 1) Q E s := by
  have hs := zcS led b
  unfold setNext
  refine wb (wpAny_setState_of g rfl hs ?_)
  dsimp only
  unfold setsByText
  refine wb (wb (wpAny_askSetting (wpAny_pure ?_)))
  unfold slotB at h
  have hpl := zlF led b
  have hpp := zdU led b
  cases hb : w.params.followText "set-order" with
  | true =>
    rw [hb] at h
    show wpAny _ _ (if w.params.followText "set-order" = true then _ else _) _ _ _
    rw [if_pos hb]
    rw [if_neg (by decide)]
    unfold setWalk
    refine wb (wb (wpAny_setState_of g rfl hs ?_))
    dsimp only
    unfold setsByText
    refine wb (wb (wpAny_askSetting (wpAny_pure ?_)))
    show wpAny _ _ (if w.params.followText "set-order" = true then _ else _) _ _ _
    rw [if_pos hb]
    refine wb (wpAny_askSetting (wpAny_pure ?_))
    rw [pick1]
    exact wpAny_pure h
  | false =>
    rw [hb] at h hl
    show wpAny _ _ (if w.params.followText "set-order" = true then _ else _) _ _ _
    rw [if_neg (by rw [hb]; decide)]
    have hd : ¬ (!(sT led b).plain && decide (1 > 1)) = true := by rw [hpp]; decide
    show wpAny _ _ (if (!(sT led b).plain && decide (1 > 1)) = true then _ else _) _ _ _
    rw [if_neg hd]
    have hm : ¬ (!(sT led b).led && !false) = true := by rw [hpl, hl]; decide
    refine wb (show wpAny _ _ (if (!(sT led b).led && !false) = true then _ else pure ()) _ _ _ from ?_)
    rw [if_neg hm]
    refine wpAny_pure ?_
    have hp := zhC led b
    generalize (sT led b).place.getD 0 0 = p at hp h
    rw [hp, below0]
    exact wpAny_pure h
theorem zjd {a : Addr} {led b : Bool} {Q : Option (Value × Nat) → Shared → Prop} (hl : led = !w.params.followText "set-order") (g : s.heap.get? a = some (sObj1 led b)) (h : Q none s) : wpAny (model prog w) A (setNext a (slotB w led b) 1 1) Q E s := by
  have hs := zcS led b
  unfold setNext
  refine wb (wpAny_setState_of g rfl hs ?_)
  dsimp only
  unfold setsByText
  refine wb (wb (wpAny_askSetting (wpAny_pure ?_)))
  unfold slotB
  have hpl := zlF led b
  have hpp := zdU led b
  cases hb : w.params.followText "set-order" with
  | true =>
    show wpAny _ _ (if w.params.followText "set-order" = true then _ else _) _ _ _
    rw [if_pos hb]
    rw [if_neg (by decide)]
    unfold setWalk
    refine wb (wb (wpAny_setState_of g rfl hs ?_))
    dsimp only
    unfold setsByText
    refine wb (wb (wpAny_askSetting (wpAny_pure ?_)))
    show wpAny _ _ (if w.params.followText "set-order" = true then _ else _) _ _ _
    rw [if_pos hb]
    refine wb (wpAny_askSetting (wpAny_pure ?_))
    rw [pick1]
    exact wpAny_pure h
  | false =>
    rw [hb] at hl
    show wpAny _ _ (if w.params.followText "set-order" = true then _ else _) _ _ _
    rw [if_neg (by rw [hb]; decide)]
    have hd : ¬ (!(sT led b).plain && decide (1 > 1)) = true := by rw [hpp]; decide
    show wpAny _ _ (if (!(sT led b).plain && decide (1 > 1)) = true then _ else _) _ _ _
    rw [if_neg hd]
    have hm : ¬ (!(sT led b).led && !false) = true := by rw [hpl, hl]; decide
    refine wb (show wpAny _ _ (if (!(sT led b).led && !false) = true then _ else pure ()) _ _ _ from ?_)
    rw [if_neg hm]
    refine wpAny_pure ?_
    have hp := zhC led b
    generalize (sT led b).place.getD 0 0 = p at hp ⊢
    rw [hp]
    simp only [Bool.false_eq_true, if_false, below1]
    exact wpAny_pure h
theorem zkQ {a it : Addr} {led b : Bool} {Q : Option Value → Shared → Prop} (hl : led = !w.params.followText "set-order") (g : s.heap.get? a = some (sObj1 led b)) (hit : s.heap.get? it = some (itobj a 0 0))
    (h : ∀ h', Heap.SameBut it s.heap h' → h'.get? it = some (itobj a (slotB w led b) 1) → Q (some (.bool b)) { s with heap := h' }) : wpAny (model prog w) A (pyNext (.ref it)) Q E s := by
  have hT : s.TypeIs (.ref it) "set_iterator" := ⟨_, hit, rfl⟩
  have hs := zcS led b
  unfold pyNext
  refine wb (wpAny_attempt (wpAny_callSpecial?_slot (name := Str.ofString "__next__") hT slot_setit_next (wpAny_call_entry slot_setit_next hT zcd ?_ (zbT _))))
  show wpAny _ _ (fieldsOf (.ref it) >>= _) _ _ _
  refine wb (wpAny_fieldsOf hit rfl ?_)
  show wpAny _ _ (setEntries a >>= _) _ _ _
  refine wb (wpAny_setEntries_of g rfl hs ?_)
  show wpAny _ _ (setNext a 0 0 1 >>= _) _ _ _
  refine wb (zje hl g ?_)
  show wpAny _ _ (setField (.ref it) 0 (rawInt (slotB w led b)) >>= _) _ _ _
  refine wb (wpAny_setField_rec hit (by simp) fun h₁ hit₁ hs₁ => ?_)
  replace hs₁ : Heap.SameBut it s.heap h₁ := hs₁
  replace hit₁ : h₁.get? it = some (itobj a (slotB w led b) 0) := hit₁
  show wpAny _ _ (setField (.ref it) 1 (rawInt 1) >>= _) _ _ { s with heap := h₁ }
  refine wb (wpAny_setField_rec hit₁ (by simp) fun h₂ hit₂ hs₂ => ?_)
  replace hs₂ : Heap.SameBut it h₁ h₂ := hs₂
  exact wpAny_pure ⟨_, rfl, wpAny_pure (h h₂ (hs₁.trans hs₂) hit₂)⟩
theorem set_end {a it : Addr} {led b : Bool} {Q : Option Value → Shared → Prop} (hh : A.handled = none) (hl : led = !w.params.followText "set-order") (g : s.heap.get? a = some (sObj1 led b)) (hit : s.heap.get? it = some (itobj a (slotB w led b) 1))
    (h : ∀ h', Heap.ExtBut it s.heap h' → Q none { s with heap := h' }) : wpAny (model prog w) A (pyNext (.ref it)) Q E s := by
  have hT : s.TypeIs (.ref it) "set_iterator" := ⟨_, hit, rfl⟩
  have hs := zcS led b
  unfold pyNext
  refine wb (wpAny_attempt (wpAny_callSpecial?_slot (name := Str.ofString "__next__") hT slot_setit_next (wpAny_call_entry slot_setit_next hT zcd ?_ (zbT _))))
  show wpAny _ _ (fieldsOf (.ref it) >>= _) _ _ _
  refine wb (wpAny_fieldsOf hit rfl ?_)
  show wpAny _ _ (setEntries a >>= _) _ _ _
  refine wb (wpAny_setEntries_of g rfl hs ?_)
  show wpAny _ _ (setNext a (slotB w led b) 1 1 >>= _) _ _ _
  refine wb (zjd hl g ?_)
  show wpAny _ _ (setField (.ref it) 2 .none >>= _) _ _ _
  refine wb (wpAny_setField_rec hit (by simp) fun h₁ hit₁ hs₁ => ?_)
  show wpAny _ _ (newExc (.type "StopIteration") [] >>= _) _ _ _
  refine wb ?_
  simp only [newExc, newTuple]
  refine wb (wpAny_newObj_type ?_ (by size_fits))
  refine wb (m := firstArgMember _ _) (wpAny_of_eq (a := Value.none) (by first | rfl | (simp only [firstArgMember]; rfl)) ?_)
  refine wpAny_newObj_type ?_ (by size_fits)
  simp only [raiseNew]
  refine wb (wpAny_handled ?_)
  first | rw [show A.in1.handled = none from hh] | rw [hh]
  refine wb (wpAny_pure (wpAny_throw ?_))
  refine wb (wpAny_isInstance (T := "StopIteration") (b := true) ⟨_, Heap.get?_push_size _ rfl, rfl⟩ isSubtype_stop ?_)
  exact wpAny_pure (h _ ((hs₁.extBut.push _).push _))
end
end Mine
end
section
open PySem PySem.Calls PyProof.Rows PySem.Builtin.Str
namespace Mine
theorem zgE (elt target iter : Expr) (ifs : List Expr) (scope : Scope) (pos : Pos) (it acc : Value) (env : Env) :
    compTurn (.SetComp elt [⟨target, iter, ifs, 0⟩] scope pos) 0 it acc env = (do
      standAt iter.pos
      match ← pyNext it with
      | none => pure (.done .next)
      | some v =>
        letOwnedTupleGo target it v
        assign target env v
        let mut ok := true
        for c in ifs do
          if ok then ok ← isTrue c env (eval c env)
        if ok then
          (do let v ← eval elt env; standAt elt.pos; let _ ← call (.builtin "set.add") [acc, v])
        again (.compLoop (.SetComp elt [⟨target, iter, ifs, 0⟩] scope pos) 0 it acc env)) := by rfl
theorem zg1 {prog : Program} {w : World} {A : Around} {R : Result → Shared → Prop} {s : Shared} {elt target iter : Expr} {ifs : List Expr} {scope : Scope} {pos : Pos} {it acc : Value} {env : Env} (I : Nat → Shared → Prop)
    (turn : ∀ n s, I n s → wpAny (model prog w) A (pyNext it) (fun r s₁ => match r with
      | none => R (.ok .next) s₁
      | some v => wpAny (model prog w) A (letOwnedTupleGo target it v) (fun _ s₁' => wpAny (model prog w) A (assign target env v) (fun _ s₂ =>
          wpAny (model prog w) A (forIn ifs true fun c r => if r = true then do let ok ← isTrue c env (eval c env); pure (ForInStep.yield ok) else pure (ForInStep.yield r)) (fun ok s₃ =>
            if ok = true then wpAny (model prog w) A (eval elt env) (fun x s₄ =>
              wpAny (model prog w) A (call (.builtin "set.add") [acc, x]) (fun _ s₅ => ∃ m, m < n ∧ I m s₅) (notedBy (model prog w) A env fun e s' => R (.error e) s') s₄) (notedBy (model prog w) A env fun e s' => R (.error e) s') s₃
            else ∃ m, m < n ∧ I m s₃) (notedBy (model prog w) A env fun e s' => R (.error e) s') s₂) (notedBy (model prog w) A env fun e s' => R (.error e) s') s₁') (notedBy (model prog w) A env fun e s' => R (.error e) s') s₁) (notedBy (model prog w) A env fun e s' => R (.error e) s') s)
    (n : Nat) (h : I n s) :
    codeAny (model prog w) A (.compLoop (.SetComp elt [⟨target, iter, ifs, 0⟩] scope pos) 0 it acc env) R s := by
  refine codeAny_loop rfl I (fun n s hI => ?_) n h
  show wpAny _ A ((compTurn (.SetComp elt [⟨target, iter, ifs, 0⟩] scope pos) 0 it acc env).onRaise (fun x => do noteFrame x env; theTreesLotGoes x)) _ _ s
  refine wpAny_noted ?_
  rw [zgE]
  refine wb (wpAny_standAt (wb (wpAny_mono (turn n s hI) (fun r s₁ h₁ => ?_) fun _ _ h' => h')))
  cases r with
  | none => exact wpAny_pure h₁
  | some v =>
    refine wb (wpAny_mono h₁ (fun _ s₁' h₁' => ?_) fun _ _ h' => h')
    refine wb (wpAny_mono h₁' (fun _ s₂ h₂ => wb (wpAny_mono h₂ (fun ok s₃ h₃ => ?_) fun _ _ h' => h')) fun _ _ h' => h')
    cases ok with
    | false => exact wpAny_pure ⟨rfl, h₃⟩
    | true =>
      exact wb (wb (wpAny_mono h₃ (fun x s₄ h₄ => wb (wpAny_standAt (wb (wpAny_mono h₄ (fun _ s₅ h₅ => wpAny_pure (wpAny_pure ⟨rfl, h₅⟩)) fun _ _ h' => h')))) fun _ _ h' => h'))
section
variable {prog : Program} {w : World} {A : Around} {R : Result → Shared → Prop} {E : VP} {s : Shared}
theorem zkR {elt target iter : Expr} {ifs : List Expr} {rest : List Comprehension} {scope : Scope} {pos : Pos} {it acc : Value} {env : Env}
    (h0 : codeAny (model prog w) A (.compLoop (.SetComp elt (⟨target, iter, ifs, 0⟩ :: rest) scope pos) 0 it acc env) R s)
    (h : wpAny (model prog w) A (pyIter it) (fun it' s' => codeAny (model prog w) A (.compLoop (.SetComp elt (⟨target, iter, ifs, 0⟩ :: rest) scope pos) 0 it' acc env) R s')
      (notedBy (model prog w) A env fun x s' => R (.error x) s') s) :
    codeAny (model prog w) A (.compStart (.SetComp elt (⟨target, iter, ifs, 0⟩ :: rest) scope pos) 0 it acc env) R s := by
  refine codeAny_of_tree ?_
  show wpAny _ _ ((compStart (.SetComp elt (⟨target, iter, ifs, 0⟩ :: rest) scope pos) 0 it acc env).onRaise (fun x => do noteFrame x env; standAt theWindowsPlace)) _ _ s
  refine wpAny_notedAt ?_
  unfold compStart
  show wpAny _ _ (ask >>= _) _ _ s
  refine wb (wpAny_askSetting (wpAny_ite ?_))
  split
  · first
      | exact wb (wpAny_pure (wpAny_pure (And.intro rfl h0)))
      | exact wpAny_pure (And.intro rfl h0)
  · first
      | exact wb (wpAny_rule (wb (wpAny_standAt (wb (wpAny_mono h (fun it' s' h' => wpAny_pure (And.intro rfl h')) fun _ _ x => x)))))
      | (refine wb (wpAny_rule ?_); show wpAny _ _ (standAt iter.pos >>= _) _ _ s; exact wb (wpAny_standAt (wb (wpAny_mono h (fun it' s' h' => wpAny_pure (And.intro rfl h')) fun _ _ x => x))))
theorem zgM {a : Addr} {led b : Bool} {Q : List Value → Shared → Prop} (hh : A.handled = none) (hl : led = !w.params.followText "set-order") (g : s.heap.get? a = some (sObj1 led b))
    (h : ∀ h', (∀ c o, s.heap.get? c = some o → h'.get? c = some o) → Q [.bool b] { s with heap := h' }) : wpAny (model prog w) A (unpackItems (.ref a) 1 none) Q E s := by
  have hT : s.TypeIs (.ref a) "set" := ⟨_, g, rfl⟩
  have hne : a ≠ s.heap.objs.size := Nat.ne_of_lt (Heap.lt_size g)
  unfold unpackItems
  refine wb ?_
  unfold notIterableAtAll
  refine wb (wpAny_specialOf hT PySem.F.slot_set_iter.lookup ?_)
  refine wpAny_pure ?_
  simp only [Bool.false_eq_true, if_false]
  refine wb (wpAny_holding (zkP g ?_))
  have g1 : (s.heap.push (itobj a 0 0)).get? a = some (sObj1 led b) := Heap.get?_push_of_some _ g
  have i1 : (s.heap.push (itobj a 0 0)).get? s.heap.objs.size = some (itobj a 0 0) := Heap.get?_push_size _ rfl
  refine wb (wpAny_holding ?_)
  unfold draw
  refine wb (zkQ (s := { s with heap := s.heap.push (itobj a 0 0) }) hl g1 i1 fun h₁ hs₁ i2 => ?_)
  refine wb (wpAny_holding ?_)
  unfold draw
  refine wpAny_pure (wpAny_pure ?_)
  rw [if_neg (show ¬ ([Value.bool b].length < 1) from Nat.lt_irrefl 1)]
  refine wb (wpAny_holding (set_end (s := { s with heap := h₁ }) hh hl ((hs₁.2 a hne).trans g1) i2 fun h₂ he => ?_))
  simp only [Option.isSome_none, Bool.false_eq_true, if_false]
  refine wpAny_pure (h h₂ fun c o e => ?_)
  have hc : c ≠ s.heap.objs.size := Nat.ne_of_lt (Heap.lt_size e)
  exact he c o hc ((hs₁.2 c hc).trans (Heap.get?_push_of_some _ e))
end
section
variable {cx : XCx} {ε : Sc}
noncomputable def ledOf (w : World) : Bool := !w.params.followText "set-order"
inductive StP (w : World) (o : Obj) : List Value → List D → Prop
  | nil : o = sObj0 (ledOf w) → StP w o [] []
  | one {ys : List Value} {ds : List D} (b : Bool) : (∀ d ∈ ds, d = .bool b) → ds ≠ [] → o = sObj1 (ledOf w) b → StP w o ys ds
theorem accSet {elt tg iter : Expr} {ifs : List Expr} {scope : Scope} {pos : Pos} : AccK cx (.SetComp elt [⟨tg, iter, ifs, 0⟩] scope pos) elt tg iter ifs (newSet (.type "set")) "set.add" (StP cx.w) (fun l => ∃ b, ∀ d ∈ l, d = D.bool b) where
  cl := rfl
  start := fun h0 h => zkR h0 h
  loop := fun I turn n h => zg1 I turn n h
  new := fun h => new_set (h _ (.nil rfl) rfl)
  pre := fun ⟨b, h⟩ => ⟨b, fun d hd => h d (List.mem_append_left _ hd)⟩
  add := fun {A Q E s F Da o ys ds v y} g hP z r hg h => by
    obtain ⟨b, hb⟩ := hg
    have hy : y = .bool b := hb y (List.mem_append_right _ (List.mem_singleton.mpr rfl))
    subst hy
    cases r with
    | bool =>
      cases hP with
      | nil e =>
        subst e
        refine zkF g (h _ _ (sObj1 (ledOf cx.w) b) (Heap.SameBut.update ..) (Heap.get?_update_self _ g rfl) (.one b hb (by simp) rfl))
      | one c hc h0 e =>
        subst e
        have ebc : b = c := by
          cases ds with
          | nil => exact absurd rfl h0
          | cons d ds =>
            have h1 := hb d (List.mem_append_left _ List.mem_cons_self)
            have h2 := hc d List.mem_cons_self
            rw [h1] at h2
            exact D.bool.inj h2
        subst ebc
        exact zkG g (h s.heap (s.toks + 1) _ (Heap.SameBut.refl ..) g (.one b hb (by simp) rfl))
theorem ev_setI {cf : CfT} {i : Nat} {it e : X} {ρ : List Slot} {r : R} (h : ev cf (.setI i it e) ρ = some [r]) :
    ∃ items l b, evI cf it ρ = some items ∧ compGo (turnC cf [i] one1 (.const (.bool true)) e ρ) items = some l ∧ l ≠ [] ∧ (∀ d ∈ l, d = D.bool b) ∧ r = .val (.bool b) := by
  replace h := (za8 _).symm.trans h
  split at h
  · rename_i items e1
    split at h
    · rename_i b l e2
      split at h
      · rename_i hall
        cases h
        refine ⟨items, _, b, by unfold evI; rw [e1], e2, by simp, fun d hd => ?_, rfl⟩
        rcases List.mem_cons.mp hd with rfl | hd
        · rfl
        · have := List.all_eq_true.mp hall d hd
          cases d <;> first | (cases this; done) | exact congrArg D.bool (eq_of_beq this)
      · cases h
    · cases h
  · cases h
theorem zjc {elt iter tg : Expr} {ifs : List Expr} {scope : Scope} {pos : Pos} {xs : List Str} {is : List Nat} {bind : D → Option (List D)} {c e it : X} (K : CompX cx ε elt iter tg ifs scope xs is bind it c e)
    {n cf A env F s ρ ad m cm} (H : Here cx ε n cf A env F s ρ ad m cm) {items l : List D} {b : Bool} (hit : evI cf it ρ = some items) (hl : compGo (turnC cf is bind c e ρ) items = some l) (h0 : l ≠ []) (hb : ∀ d ∈ l, d = D.bool b)
    {Q E : VP} (hQ : ∀ Da F' s', Step cx F s F' s' → s'.heap.get? Da = some (sObj1 (ledOf cx.w) b) → Q (.ref Da) s') :
    wpAny (model cx.prog cx.w) A (eval (.SetComp elt [⟨tg, iter, ifs, 0⟩] scope pos) env) Q E s := by
  rw [PySem.arm_eval_SetComp]
  refine ze3 (use := none) accSet K.hT K.hb K.hi K.ok K.hc K.he K.hs H hit hl ⟨b, hb⟩ fun Da C F' s' m' ob ys st f0 nf nx g hP q z hn frC nC hne => ?_
  refine ⟨m', hn, fun h'' sb => ?_⟩
  have st2 : Step cx F s F' { s' with heap := h'' } := st.kept H.ok H.wd (wr := (· = C)) (fun b hb => by subst hb; exact ⟨frC, nC⟩) s'.toks fun a o h e => (sb.2 a h).trans e
  refine hQ Da F' _ st2 ((sb.2 Da hne.symm).trans ?_)
  cases hP with
  | nil => exact absurd rfl h0
  | one c hc _ e =>
    have ebc : b = c := by
      cases l with
      | nil => exact absurd rfl h0
      | cons d l =>
        have h1 := hb d List.mem_cons_self
        have h2 := hc d List.mem_cons_self
        rw [h1] at h2
        exact D.bool.inj h2
    rw [ebc, ← e]; exact g
theorem zdN {x : Str} {j : Nat} {p pos' pos cpos : Pos} {k : Nat} {elt iter tg : Expr} {ifs : List Expr} {scope : Scope} {y : Str} {i : Nat} {e it : X} (hx : ε.vars.lookup x = some j) (hfx : ε.kinds.lookup x ≠ some .free) (K : CompX cx ε elt iter tg ifs scope [y] [i] one1 it (.const (.bool true)) e)
    (hw : ∀ env, swappedStores [.Tuple [.Name x p] k pos'] (.SetComp elt [⟨tg, iter, ifs, 0⟩] scope cpos) env = pure none) :
    SoundS cx ε (.Assign [.Tuple [.Name x p] k pos'] (.SetComp elt [⟨tg, iter, ifs, 0⟩] scope cpos) pos) (.assign j (.setI i it e)) := by
  intro n cf A env F s ρ ad m cm H ρ' o he Q E hQ
  replace he := (zcG cf).symm.trans he
  obtain ⟨d, e0, e00⟩ := Option.map_eq_some_iff.mp he
  cases e00
  obtain ⟨r, e1, er⟩ : ∃ r, ev cf (.setI i it e) ρ = some [r] ∧ r.fz = some d := by
    unfold ev1 at e0
    split at e0
    · rename_i r e1; exact ⟨r, e1, e0⟩
    · cases e0
  obtain ⟨items, l, b, a1, a2, a3, a4, rfl⟩ := ev_setI e1
  cases er
  refine wpAny_Assign_stores (zjc K H.here a1 a2 a3 a4 fun Da F1 s1 st g => ?_) rfl (hw env)
  show wpAny _ _ (assign (.Tuple [.Name x p] k pos') env (.ref Da)) _ _ _
  rw [arm_assign_Tuple]
  refine wb (wpAny_standAt ?_)
  unfold unpack
  refine wb (wpAny_holding (zgM H.bud.hd rfl g fun h' hk => ?_))
  have st1 := st.trans (Step.grown H.ok st.wd s1.toks hk)
  show wpAny _ _ (assignInOrder [fun v => assign (.Name x p) env v] [Value.bool b]) _ _ _
  unfold assignInOrder
  refine wb (wpAny_holding (wpAny_assign_Name ?_))
  refine zcv H st1 hx hfx (sl := .val (.bool b)) (ad' := ad) (fun _ _ => rfl) (.inl rfl) (fun h' _ => .val (.bool b)) (fun _ e => nomatch e) fun s'' m'' cm'' _ x f => ?_
  exact wpAny_pure (hQ .next F1 s'' ad m'' cm'' x f .next)
end
inductive DicNow (cx : XCx) (F : AP) (h : Heap) (a : Addr) (l : List D) : Prop
  | mk (kvs : List (Str × Value)) (nx : ¬ cx.X a) (sm : (a == sysModules) = false) (g : h.DictOf (PySem.strKind cx.prog cx.w) a kvs) (q : KV cx.T F h kvs l) (z : l.length ≤ lim)
section
variable {cx : XCx} {ε : Sc} {n : Nat} {cf : CfT} {A : Around} {env : Env} {F F' : AP} {s s' : Shared} {ρ ρ' : List Slot} {ad : NAd} {m cm : SV} {i : Nat} {l : List D}
theorem DicNow.step (st : Step cx F s F' s') (w : Wd cx F s) {a : Addr} (d : DicNow cx F s.heap a l) : DicNow cx F' s'.heap a l := by
  cases d with
  | mk kvs nx sm g q z =>
    obtain ⟨o, es, ep, ho, r⟩ := g
    exact .mk kvs nx sm ⟨o, es, ep, st.keep _ _ ho nx, r⟩ (q.mono st.sub fun a o f e => st.keep a o e (w.nx a f)) z
theorem zja {sl : Slot} (e : ρ[i]? = some sl) : slotAt ρ i = sl := by
  unfold slotAt
  rw [List.getD_eq_getElem?_getD, e]; rfl
theorem zkY {sl : Slot} (h : ownS sl = some l) : sl = .own l := by cases sl <;> cases h; rfl
theorem fzS_inv {sl : Slot} (h : fzS sl = some l) : sl = .fdic l := by cases sl <;> cases h; rfl
theorem zb3 (h : dicOwn ρ i = some l) : slotAt ρ i = .own l ∧ dSlot i = true ∧ i < ρ.length := by
  by_cases hd : dSlot i = true
  · obtain ⟨sl, e, h⟩ := Option.bind_eq_some_iff.mp ((if_pos hd).symm.trans h)
    cases zkY h
    exact ⟨zja e, hd, (List.getElem?_eq_some_iff.mp e).1⟩
  · cases (if_neg hd).symm.trans h
theorem zdx (h : dicFz ρ i = some l) : slotAt ρ i = .fdic l := by
  obtain ⟨sl, e, h⟩ := Option.bind_eq_some_iff.mp h
  cases fzS_inv h
  exact zja e
theorem ze2 (h : dicAt ρ i = some l) : dicOwn ρ i = some l ∨ dicFz ρ i = some l := by
  unfold dicAt at h
  cases e : dicOwn ρ i with
  | none => rw [e] at h; exact .inr h
  | some l' => rw [e] at h; exact .inl h
theorem zfJ {h : Heap} {ov : Option Value} (hd : dSlot i = true) (q : SlotRep cx F h ad i ov (.own l)) : ov = some (.ref (ad i)) ∧ DicNow cx F h (ad i) l := by
  cases q with
  | own _ _ _ _ _ hd' => rw [hd] at hd'; cases hd'
  | dic nf nx sm g q z _ => exact ⟨rfl, .mk _ nx sm g q z⟩
theorem zlV (w : Wd cx F s) {ov : Option Value} (q : SlotRep cx F s.heap ad i ov (.fdic l)) : ∃ a, ov = some (.ref a) ∧ F a ∧ DicNow cx F s.heap a l := by
  cases q with
  | fdic f sm g q z => exact ⟨_, rfl, f, .mk _ (w.nx _ f) sm g q z⟩
theorem dic_now (w : Wd cx F s) {ov : Option Value} (q : SlotRep cx F s.heap ad i ov (slotAt ρ i)) (h : dicAt ρ i = some l) : ∃ a, ov = some (.ref a) ∧ DicNow cx F s.heap a l := by
  rcases ze2 h with e | e
  · obtain ⟨e, hd, _⟩ := zb3 e
    exact ⟨_, zfJ hd (e ▸ q)⟩
  · obtain ⟨a, e1, _, e2⟩ := zlV w (zdx e ▸ q)
    exact ⟨a, e1, e2⟩
theorem zhK (H : Here cx ε n cf A env F s ρ ad m cm) {x : Str} {p : Pos} (hx : ε.vars.lookup x = some i) (hn : (x == ("__classdict__" : Str)) = false) (hd : (x == ("__debug__" : Str)) = false) (hi : dicAt ρ i = some l)
    {Q E : VP} (h : ∀ a, DicNow cx F s.heap a l → Q (.ref a) s) : wpAny (model cx.prog cx.w) A (eval (.Name x p) env) Q E s := by
  refine wpAny_Name (zcC H hx hn (fun v q => ?_) fun e => ?_) hd
  · obtain ⟨a, e, d⟩ := dic_now H.wd q hi
    cases e
    exact h a d
  · rcases ze2 hi with e' | e'
    · rw [(zb3 e').1] at e; cases e
    · rw [zdx e'] at e; cases e
theorem KV.get {T : NAd} {h : Heap} {kvs : List (Str × Value)} (q : KV T F h kvs l) (k : List Nat) :
    (valueAt kvs ⟨k.toArray⟩ = none ∧ dictGet l k = none) ∨ ∃ v d, valueAt kvs ⟨k.toArray⟩ = some v ∧ dictGet l k = some d ∧ Rep T F h v d := by
  induction q with
  | nil => exact .inl ⟨rfl, rfl⟩
  | @cons k' v d kvs l _ _ r _ ih =>
    by_cases e : k' = k
    · subst e
      exact .inr ⟨v, d, by unfold valueAt; rw [List.find?_cons_of_pos (by simp)]; rfl, if_pos rfl, r⟩
    · have e2 : ¬ ((⟨k'.toArray⟩ : Str) = ⟨k.toArray⟩) := fun h => e (by injection h with h; simpa using h)
      have e1 : valueAt ((⟨k'.toArray⟩, v) :: kvs) ⟨k.toArray⟩ = valueAt kvs ⟨k.toArray⟩ := by unfold valueAt; rw [List.find?_cons_of_neg (by simpa using e2)]
      have e3 : dictGet (.tup [.str k', d] :: l) k = dictGet l k := if_neg e
      rw [e1, e3]; exact ih
theorem KV.snoc {T : NAd} {h : Heap} {kvs : List (Str × Value)} (q : KV T F h kvs l) {k : List Nat} {v : Value} {d : D} (hp : ∀ c ∈ k, c < 0x110000) (hz : k.length ≤ lim) (r : Rep T F h v d) : KV T F h (kvs ++ [(⟨k.toArray⟩, v)]) (l ++ [.tup [.str k, d]]) := by
  induction q with
  | nil => exact .cons hp hz r .nil
  | cons a b c _ ih => exact .cons a b c ih
theorem KV.len {T : NAd} {h : Heap} {kvs : List (Str × Value)} (q : KV T F h kvs l) : kvs.length = l.length := by
  induction q with
  | nil => rfl
  | cons _ _ _ _ ih => exact congrArg (· + 1) ih
theorem KV.at {T : NAd} {h : Heap} {kvs : List (Str × Value)} (q : KV T F h kvs l) {j : Nat} {k : Str} {x : Value} (e : kvs[j]? = some (k, x)) : ∃ k', k = ⟨k'.toArray⟩ ∧ (∀ c ∈ k', c < 0x110000) ∧ k'.length ≤ lim ∧ (l.map keyD)[j]? = some (.str k') := by
  induction q generalizing j with
  | nil => cases e
  | cons a b c _ ih =>
    cases j with
    | zero => cases e; exact ⟨_, rfl, a, b, rfl⟩
    | succ j => exact ih e
theorem zic {kvs : List (Str × Value)} {k : Str} {v : Value} (h : valueAt kvs k = none) : stored kvs k v = kvs ++ [(k, v)] := by
  unfold stored
  refine if_neg fun e => ?_
  obtain ⟨kv, h1, h2⟩ := List.any_eq_true.mp e
  have := List.find?_eq_none.mp (Option.map_eq_none_iff.mp h) kv h1
  exact this h2
theorem zhw {x : Option (List R)} {k : List Nat} (h : strV x = some k) : x = some [.val (.str k)] := by
  rcases x with _ | rs
  · cases h
  rcases rs with _ | ⟨r0, _ | ⟨r1, rs⟩⟩
  · cases h
  · cases r0 with
    | val d => cases d <;> cases h; rfl
    | _ => cases h
  · cases r0 with
    | val d => cases d <;> cases h
    | _ => cases h
theorem zlj {x : Option D} {k : List Nat} (h : keyO x = some k) : x = some (.str k) := by
  cases x with
  | none => cases h
  | some d => cases d <;> cases h; rfl
inductive DNot (cf : CfT) (i : Nat) (y : X) (ρ : List Slot) : R → Prop
  | mk {l : List D} {k : List Nat} : dicAt ρ i = some l → ev cf y ρ = some [.val (.str k)] → DNot cf i y ρ (.val (.bool (dictGet l k).isNone))
theorem zlv {y : X} {r : R} (h : ev cf (.dNot i y) ρ = some [r]) : DNot cf i y ρ r := by
  replace h := (zhX cf).symm.trans h
  cases e1 : dicAt ρ i with
  | none => rw [e1] at h; cases h
  | some l =>
    cases e2 : strV (ev cf y ρ) with
    | none => rw [e1, e2] at h; cases h
    | some k => rw [e1, e2] at h; cases h; exact .mk e1 (zhw e2)
inductive DGet (cf : CfT) (i : Nat) (y : X) (ρ : List Slot) : R → Prop
  | mk {l : List D} {k : List Nat} {d : D} : dicAt ρ i = some l → ev cf y ρ = some [.val (.str k)] → dictGet l k = some d → DGet cf i y ρ (.val d)
theorem zlw {y : X} {r : R} (h : ev cf (.dGet i y) ρ = some [r]) : DGet cf i y ρ r := by
  replace h := (zhY cf).symm.trans h
  cases e1 : dicAt ρ i with
  | none => rw [e1] at h; cases h
  | some l =>
    cases e2 : strV (ev cf y ρ) with
    | none => rw [e1, e2] at h; cases h
    | some k =>
      rw [e1, e2] at h
      obtain ⟨d, e3, e4⟩ := Option.map_eq_some_iff.mp h
      cases e4
      exact .mk e1 (zhw e2) e3
theorem zh4 (H : Here cx ε n cf A env F s ρ ad m cm) {e : Expr} {y : X} (h : Sound cx ε e y) {x : Str} {p : Pos} (hx : ε.vars.lookup x = some i) (hn : (x == ("__classdict__" : Str)) = false) (hd : (x == ("__debug__" : Str)) = false)
    {r : R} (hr : ev cf (.dNot i y) ρ = some [r]) {Q E : VP} (hQ : Post cx F s r Q) :
    wpAny (model cx.prog cx.w) A (eval e env) (fun a s₁ => wpAny (model cx.prog cx.w) A (eval (.Name x p) env) (fun b s₂ => wpAny (model cx.prog cx.w) A (compareOp .NotIn a b) Q E s₂) E s₁) E s := by
  cases zlv hr with
  | @mk l k hl he =>
    refine h.ev n cf A env F s ρ ad m cm H _ he _ _ fun v F' s' st q => ?_
    refine zhK (H.step st) hx hn hd hl fun a d => ?_
    cases d with
    | mk kvs nx sm g qk z =>
      obtain ⟨t, rfl, pp, zz⟩ := q.brep.str_inv
      have e : (!(valueAt kvs ⟨k.toArray⟩).isSome) = (dictGet l k).isNone := by
        rcases qk.get k with ⟨e1, e2⟩ | ⟨v, d, e1, e2, _⟩ <;> rw [e1, e2] <;> rfl
      refine wpAny_notIn_of (knd := PySem.strKind _ _) (k := ⟨k.toArray⟩) (strKind_is _ _ _ _) sm g.mapOf ?_
      rw [e]
      exact hQ _ F' _ (st.trans ((Step.refl st.wd).toks _)) (.val (.bool _))
theorem zid {e : Expr} {y : X} {x : Str} {p pos : Pos} (h : Sound cx ε e y) (hx : ε.vars.lookup x = some i) (hn : (x == ("__classdict__" : Str)) = false) (hd : (x == ("__debug__" : Str)) = false) (hm : behindInMarks .NotIn (.Name x p) = false := by rfl) :
    Sound cx ε (.Compare e [.NotIn] [.Name x p] pos) (.dNot i y) := by
  refine ⟨fun n cf A env F s ρ ad m cm H res he Q E hQ => wpAny_Compare1 (zh4 H h hx hn hd he hQ) hm, ?_⟩
  intro n cf A env F s ρ ad m cm H b hb Q E hQ
  unfold evT truthR at hb
  split at hb
  · rename_i res e
    refine wpAny_isTrue_Compare1 (zh4 H h hx hn hd e fun v F' s' st q => ?_) hm
    exact zbq st.wd q.brep hb _ _ fun F'' s'' st' => hQ F'' s'' (st.trans st')
  · cases hb
theorem zaI {e : Expr} {y : X} {x : Str} {p pos : Pos} (h : Sound cx ε e y) (hx : ε.vars.lookup x = some i) (hn : (x == ("__classdict__" : Str)) = false) (hd : (x == ("__debug__" : Str)) = false) : Sound cx ε (.Subscript (.Name x p) e pos) (.dGet i y) := by
  refine Sound.ofE ?_ fun _ => rfl
  intro n cf A env F s ρ ad m cm H res he' Q E hQ
  cases zlw he' with
  | @mk l k d hl he hg =>
    refine Subscript_ (zhK H hx hn hd hl fun a dn => ?_)
    refine h.ev n cf A env F s ρ ad m cm H _ he _ _ fun v F' s' st q => ?_
    cases dn.step st H.wd with
    | mk kvs nx sm g qk z =>
      obtain ⟨t, rfl, pp, zz⟩ := q.brep.str_inv
      rcases qk.get k with ⟨_, e2⟩ | ⟨v, d', e1, e2, r⟩
      · rw [hg] at e2; cases e2
      · rw [hg] at e2; cases e2
        obtain ⟨ops, hs⟩ := zcf e (.ref a) (.str ⟨k.toArray⟩ t)
        refine tail_any g.typeIs PySem.slot_dict_getitem.lookup (wpAny_getItem_of (knd := PySem.strKind _ _) (k := ⟨k.toArray⟩) (strKind_is _ _ _ _) g.mapOf e1 ?_) hs
        exact hQ _ F' _ (st.trans ((Step.refl st.wd).toks _)) (.val r)
inductive DSet (cf : CfT) (i : Nat) (k y : X) (ρ : List Slot) : List Slot → Out → Prop
  | mk {l : List D} {q : List Nat} {d : D} : dicOwn ρ i = some l → ev1 cf k ρ = some (.str q) → ev1 cf y ρ = some d → dictGet l q = none → l.length < lim → DSet cf i k y ρ (ρ.set i (.own (l ++ [.tup [.str q, d]]))) .next
theorem zlu {k y : X} {o : Out} (h : ex cf (.dSet i k y) ρ = some (ρ', o)) : DSet cf i k y ρ ρ' o := by
  replace h := (zhV cf).symm.trans h
  cases e1 : dicOwn ρ i with
  | none => rw [e1] at h; cases h
  | some l =>
    cases e2 : keyO (ev1 cf k ρ) with
    | none => rw [e1, e2] at h; cases h
    | some q =>
      cases e3 : ev1 cf y ρ with
      | none => rw [e1, e2, e3] at h; cases h
      | some d =>
        rw [e1, e2, e3] at h
        by_cases hc : (dictGet l q).isNone ∧ l.length < lim
        · cases (if_pos hc).symm.trans h
          exact .mk e1 (zlj e2) e3 (Option.isNone_iff_eq_none.mp hc.1) hc.2
        · cases (if_neg hc).symm.trans h
theorem zg9 (H : Here cx ε n cf A env F s ρ ad m cm) : (s.heap.objs.size == sysModules) = false := by
  obtain ⟨o, _, _, g, _⟩ := H.ok.glob
  have h := Heap.lt_size (H.wd.base _ _ g H.ok.gx)
  exact beq_false_of_ne fun e => absurd (e ▸ h : mainGlobals < sysModules) (by decide)
theorem zgV {x : Str} {p p' pos : Pos} (hx : ε.vars.lookup x = some i) (hf : ε.kinds.lookup x ≠ some .free) (hs : ∀ env : Env, swapsWith (.Dict [] [] p') (some (.Name x p)) pos.line env = pure false) : SoundS cx ε (.Assign [.Name x p] (.Dict [] [] p') pos) (.dNew i) := by
  intro n cf A env F s ρ ad m cm H ρ' o he Q E hQ
  replace he := (zhW cf).symm.trans he
  by_cases hc : (dSlot i && noApp i ρ) = true
  · cases (if_pos hc).symm.trans he
    obtain ⟨hd, hna⟩ := Bool.and_eq_true _ _ ▸ hc
    have hfr : s.heap.get? s.heap.objs.size = none := zar _
    have st := Step.push H.ok H.wd { cls := .type "dict", data := .dict #[] } s.toks
    obtain ⟨o, es, ep, g, r⟩ := Heap.DictOf.new (knd := PySem.strKind cx.prog cx.w) s.heap
    refine wpAny_Assign_Name (wpAny_Dict_empty ?_) (hs env)
    have key : ∀ h', (∀ a o, F a ∨ ¬ Mut env ρ ad a → (s.heap.push { cls := .type "dict", data := .dict #[] }).get? a = some o → h'.get? a = some o) → ∀ ad' : Nat → Addr, ad' i = s.heap.objs.size → SlotRep cx F h' ad' i (some (.ref (ad' i))) (.own []) := fun h' hk ad' e => by
      have nm : ¬ Mut env ρ ad s.heap.objs.size := fun hm => by
        obtain ⟨o, e⟩ := H.frm.isSome hm
        rw [hfr] at e; cases e
      exact .dic (kvs := []) (by rw [e]; exact H.wd.newNotF hfr) (by rw [e]; exact H.wd.newNotX hfr) (by rw [e]; exact zg9 H.here) (by rw [e]; exact ⟨o, es, ep, hk _ _ (.inr nm) g, r⟩) .nil (Nat.zero_le _) hd
    have e0 : (fun j => if j = i then s.heap.objs.size else ad j) i = s.heap.objs.size := if_pos rfl
    refine zc3 H st hx hf (sl := .own []) (ad' := fun j => if j = i then s.heap.objs.size else ad j) (fun j hj => if_neg hj) (.inr (zfu hna)) (fun h' hk => ?_) (fun l' _ => ?_) fun s'' m' cm' x f => hQ .next F s'' _ m' cm' x f .next
    · have := key h' hk (fun j => if j = i then s.heap.objs.size else ad j) e0
      simp only [if_true] at this
      exact this
    · simp only [if_true]
      exact ⟨hfr, H.wd.newNotF hfr, H.wd.newNotX hfr, o, g⟩
  · cases (if_neg hc).symm.trans he
theorem zgU {x : Str} {ek e : Expr} {k y : X} {p pos pos' : Pos} (hx : ε.vars.lookup x = some i) (hn : (x == ("__classdict__" : Str)) = false) (hd : (x == ("__debug__" : Str)) = false)
    (hk : Sound cx ε ek k) (h : Sound cx ε e y) (hs : ∀ env, swapsWith e (some (.Subscript (.Name x p) ek pos')) pos.line env = pure false) : SoundS cx ε (.Assign [.Subscript (.Name x p) ek pos'] e pos) (.dSet i k y) := by
  intro n cf A env F s ρ ad m cm H ρ' o he Q E hQ
  cases zlu he with
  | @mk l q d h1 h2 h3 hno hz =>
    obtain ⟨hsl, hds, hlt⟩ := zb3 h1
    have now : ∀ {F : AP} {s : Shared}, HereS cx ε n cf A env F s ρ ad m cm → DicNow cx F s.heap (ad i) l := fun H => by
      rcases H.frm.en.vars x i hx with ⟨_, q⟩ | ⟨_, _, q⟩ <;> rw [hsl] at q <;> exact (zfJ hds q).2
    refine wpAny_Assign_Subscript (zeh H h h3 fun v F1 s1 st1 qv => ?_) (hs env)
    have H1 := H.step st1
    refine wpAny_Name (zcC H1.here hx hn (fun v' q' => ?_) (by rw [hsl]; intro e; cases e)) hd
    rw [hsl] at q'
    cases (zfJ hds q').1
    refine zeh H1 hk h2 fun kv F2 s2 st2 qk => ?_
    have H2 := H1.step st2
    cases qk with
    | str t pp zz =>
      cases now H2 with
      | mk kvs nx sm g qkv z =>
        have e1 : valueAt kvs ⟨q.toArray⟩ = none := by
          rcases qkv.get q with ⟨e1, _⟩ | ⟨v, d, _, e2, _⟩
          · exact e1
          · rw [hno] at e2; cases e2
        refine wpAny_setItem_pairs (knd := PySem.strKind _ _) (k := ⟨q.toArray⟩) (strKind_is _ _ _ _) g (fun h' g' sb => ?_) (by rw [qkv.len]; exact zaC z)
        rw [zic e1] at g'
        have rv := st2.rep st1.wd qv
        obtain ⟨nf, _, _, _, _⟩ := H2.frm.own i l hsl
        obtain ⟨x1, f1⟩ := zeW H (st1.trans st2) hsl sb (let ⟨o, _, _, go, _⟩ := g'; ⟨o, go⟩) (fun keep ov q' => by
          rw [(zfJ hds q').1]
          exact .dic nf nx sm g' ((qkv.snoc pp zz rv).mono (fun _ h => h) keep) (by rw [List.length_append]; exact hz) hds) (s2.toks + 1)
        exact hQ .next F2 _ ad m cm x1 f1 .next
theorem zie {st : Stmt} {b : S} (h : SoundS cx ε st b) : SoundS cx ε st (.seq (.dFz i) b) := by
  intro n cf A env F s ρ ad m cm H ρ' o he Q E hQ
  rw [zki, zkg] at he
  cases hown : dicOwn ρ i with
  | none => rw [hown] at he; cases he
  | some l =>
    rw [hown] at he
    obtain ⟨hs, hd, hlt⟩ := zb3 hown
    obtain ⟨F', x, f⟩ := zj8 H hs hlt (sl := .fdic l) (fun _ e => nomatch e) fun ov q => by
      cases q with
      | own _ _ _ _ _ hd' => rw [hd] at hd'; cases hd'
      | dic nf nx sm g q z _ => exact .fdic (.inr rfl) sm g (q.mono (fun _ h => .inl h) fun _ _ _ e => e) z
    exact h n cf A env F' s _ ad m cm (H.stepS x f) ρ' o he Q E (hQ.after x)
theorem zkm {items : List D} (h : evI cf (.dKeys i) ρ = some items) : ∃ l, dicFz ρ i = some l ∧ items = l.map keyD := by
  unfold evI at h
  split at h
  · rename_i l e
    cases h
    replace e := (zgA _).symm.trans e
    cases e1 : dicFz ρ i with
    | none => rw [e1] at e; cases e
    | some l => rw [e1] at e; cases e; exact ⟨l, rfl, rfl⟩
  · cases h
theorem zdB {x : Str} {p : Pos} (hx : ε.vars.lookup x = some i) (hn : (x == ("__classdict__" : Str)) = false) (hd : (x == ("__debug__" : Str)) = false) : SoundI cx ε (.Name x p) (.dKeys i) := by
  intro n cf A env F s ρ ad m cm H items hi Q E hQ
  obtain ⟨l, e1, rfl⟩ := zkm hi
  have hsl := zdx e1
  refine wpAny_Name (zcC H hx hn (fun v q => ?_) (by rw [hsl]; intro e; cases e)) hd
  obtain ⟨a, e, f, dn⟩ := zlV H.wd (hsl ▸ q)
  cases e
  cases dn with
  | mk kvs nx sm g qkv z =>
    obtain ⟨ep, ha⟩ := g.dictAt
    have el : (l.map keyD).length = kvs.length := by rw [List.length_map, qkv.len]
    refine wpAny_pyIter_dict sm ha (hQ _ F _ [s.heap.objs.size, a] [s.heap.objs.size] (fun i v => ∃ k x, kvs[i]? = some (k, x) ∧ (PySem.strKind cx.prog cx.w).is k v = true) (fun i h => h.IsKeyIter s.heap.objs.size a i kvs.length ep ∧ h.DictAt (PySem.strKind cx.prog cx.w) a kvs ep) ?_)
    refine zcE H.ok H.wd (Step.refl H.wd) (fun A' hh => by rw [el]; exact Walks.dictKeys hh _ a (Nat.ne_of_lt ha.lt_size) kvs ep) ⟨⟨_, Heap.get?_push_size _ rfl, rfl, rfl⟩, ha.push _⟩ (fun b hb => ?_) (fun i v h => ?_) (fun i h hs => ?_) (by rw [List.length_map]; exact z) s.toks
    · simp only [List.mem_cons, List.not_mem_nil, or_false] at hb
      rcases hb with rfl | rfl
      · exact .inl rfl
      · exact .inr f
    · obtain ⟨k, x, e, hk⟩ := h
      obtain ⟨t, rfl⟩ := Value.isStrOf_shape hk
      obtain ⟨k', rfl, hp, hz, e'⟩ := qkv.at e
      exact ⟨_, e', .str t hp hz⟩
    · obtain ⟨⟨o, g, c, _⟩, _⟩ := hs
      exact ⟨o, _, g, c, by decide⟩
end
theorem zed (x : List Nat) : ∀ l, (insS x l).Perm (x :: l)
  | [] => .refl _
  | y :: r => by
    unfold insS
    split
    · exact ((zed x r).cons y).trans (.swap x y r)
    · exact .refl _
theorem zbz : ∀ l, (sortS l).Perm l
  | [] => .refl _
  | x :: r => (zed x (sortS r)).trans ((zbz r).cons x)
theorem zj0 (x : List Nat) : ∀ l : List (List Nat), l.Pairwise (· ≤ ·) → (insS x l).Pairwise (· ≤ ·)
  | [], _ => List.pairwise_singleton ..
  | y :: r, h => by
    have h1 := List.pairwise_cons.mp h
    unfold insS
    split
    · rename_i hlt
      have hlt : y < x := of_decide_eq_true hlt
      refine List.pairwise_cons.mpr ⟨fun z hz => ?_, zj0 x r h1.2⟩
      rcases List.mem_cons.mp ((zed x r).mem_iff.mp hz) with rfl | hz
      · exact List.le_of_lt hlt
      · exact h1.1 z hz
    · rename_i hlt
      have hle : x ≤ y := List.not_lt.mp fun h => hlt (decide_eq_true h)
      refine List.pairwise_cons.mpr ⟨fun z hz => ?_, h⟩
      rcases List.mem_cons.mp hz with rfl | hz
      · exact hle
      · exact List.le_trans hle (h1.1 z hz)
theorem zfj : ∀ l, (sortS l).Pairwise (· ≤ ·)
  | [] => .nil
  | x :: r => zj0 x _ (zfj r)
theorem zga : ∀ (p : PySem.Str) (l : List PySem.Str), risingS p l = true → ((p :: l).map fun x => x.cps.toList).Pairwise (· ≤ ·)
  | p, [], _ => List.pairwise_singleton ..
  | p, x :: r, h => by
    obtain ⟨h1, h2⟩ := Bool.and_eq_true _ _ ▸ (show (!PySem.Spec.ltCps x.cps.toList p.cps.toList && risingS x r) = true from h)
    have ih := zga x r h2
    have hle : p.cps.toList ≤ x.cps.toList := List.not_lt.mp fun h => by
      rw [ltCps_eq, decide_eq_true h] at h1; cases h1
    refine List.pairwise_cons.mpr ⟨fun z hz => ?_, ih⟩
    rcases List.mem_cons.mp hz with rfl | hz
    · exact hle
    · exact List.le_trans hle ((List.pairwise_cons.mp ih).1 z hz)
theorem zi8 : ∀ l : List PySem.Str, sortedS l = true → (l.map fun x => x.cps.toList).Pairwise (· ≤ ·)
  | [], _ => .nil
  | x :: r, h => zga x r h
theorem cps_map (ls : List (List Nat)) : (ls.map fun x => PySem.Str.mk x.toArray).map (fun x => x.cps.toList) = ls := by
  rw [List.map_map]; exact List.map_id'' (fun _ => rfl) _
theorem zif {ls : List (List Nat)} {ss : List PySem.Str} (hp : ss.Perm (ls.map fun x => PySem.Str.mk x.toArray)) (hs : sortedS ss = true) : ss.map (fun x => x.cps.toList) = sortS ls :=
  List.Perm.eq_of_pairwise (fun _ _ _ _ => List.le_antisymm) (zi8 ss hs) (zfj ls) (((hp.map _).trans (.of_eq (cps_map ls))).trans (zbz ls).symm)
theorem zeK : ∀ ps : List (PySem.Str × Tok), StrsAre (strValues ps) (ps.map (·.1))
  | [] => .nil
  | (x, t) :: r => .cons x t (zeK r)
theorem zjh {T : NAd} {F : AP} {h : Heap} {vs : List Value} {ss : List PySem.Str} (q : StrsAre vs ss) (hb : ∀ x ∈ ss.map (fun x => x.cps.toList), (∀ c ∈ x, c < 0x110000) ∧ x.length ≤ lim) : RepL T F h vs ((ss.map fun x => x.cps.toList).map D.str) := by
  induction q with
  | nil => exact .nil
  | cons y t _ ih =>
    obtain ⟨h1, h2⟩ := hb _ (List.mem_cons_self ..)
    exact .cons (.str (l := y.cps.toList) t h1 h2) (ih fun x hx => hb x (List.mem_cons_of_mem _ hx))
section
variable {cx : XCx} {ε : Sc}
theorem zjq : OpOK cx .sorted (fun vs => call (.builtin "sorted") vs) := by
  intro n A F s vs ds r ok bud w q he Q E hQ
  replace he : opSorted ds = some r := he
  rcases ds with _ | ⟨a0, t0⟩
  · cases he
  cases a0 <;> try (cases he; done)
  rcases t0 with _ | ⟨a1, t1⟩ <;> try (cases he; done)
  rename_i l
  replace he : (match toStrs l with | some ls => if ls.length < 64 then some (R.own ((sortS ls).map .str)) else none | none => none) = some r := he
  cases e1 : toStrs l with
  | none => rw [e1] at he; cases he
  | some ls =>
    rw [e1] at he
    by_cases h64 : ls.length < 64
    · cases (if_pos h64).symm.trans he
      obtain ⟨x, rfl, qa⟩ := q.one
      obtain ⟨a, vs, k, rfl, nx, g, z, ql⟩ := qa.list_inv w
      obtain ⟨ps, rfl, e2, hb⟩ := zi0 e1 ql
      have hS := zeK ps
      rw [e2] at hS
      have hlen : (strValues ps).length = ls.length := by rw [hS.length, List.length_map]
      refine sorted_strs (zaB g) hS (by rw [hlen]; exact h64) fun out ss' a1 a2 a3 => ?_
      obtain ⟨c, hc⟩ := sortedAll_at s.heap (strValues ps) out
      have fr : s.heap.get? (s.heap.objs.size + 1) = none := Heap.get?_none_of_le (Nat.le_succ _)
      have es := zif a2 a3
      have q' : RepL cx.T F (sortedAll s.heap (strValues ps) out) out.toList ((sortS ls).map D.str) := es ▸ zjh a1 fun x hx => hb x ((zbz ls).mem_iff.mp (es ▸ hx))
      refine hQ _ _ _ (Step.grown ok w s.toks fun _ _ => sortedAll_old) (.own (vs := out.toList) (n := c) fr (w.newNotF fr) (w.newNotX fr) hc ?_ q')
      rw [q'.length, List.length_map, (zbz ls).length_eq, ← hlen]
      exact z
    · cases (if_neg h64).symm.trans he
theorem zin : OpOK cx .tupleOf (fun vs => call (.type "tuple") vs) := by
  intro n A F s vs ds r ok bud w q he Q E hQ
  replace he : opTupleOf ds = some r := he
  rcases ds with _ | ⟨a0, t0⟩
  · cases he
  cases a0 <;> try (cases he; done)
  rcases t0 with _ | ⟨a1, t1⟩ <;> cases he
  obtain ⟨x, rfl, qa⟩ := q.one
  obtain ⟨a, vs, k, rfl, nx, g, z, ql⟩ := qa.list_inv w
  refine call_tuple_list (zaB g) (fun h' keep => ?_) (by rw [List.size_toArray]; exact zaC z)
  have st := Step.grown ok w s.toks keep
  obtain ⟨F', st', r⟩ := zfo ok st.wd s.toks z (st.repL w ql)
  exact hQ _ F' _ (st.trans st') (.val r)
end
end Mine
end
section
open PySem
namespace Mine
noncomputable def s_escape : S := (.seq (.ite (.op .isInst (.cons (.var 0) (.cons (.const (.ty "str")) .nil))) (.seq (.ret (.op .translate (.cons (.var 0) .nil))) .skip) dead) .skip)
noncomputable def fn_escape : Fn := { np := 1, va := false, ns := 1, body := s_escape }
noncomputable def s_fspath : S := (.seq (.assign 1 (.op .tyOf (.cons (.var 0) .nil))) (.seq (.ite (.op .isSub (.cons (.var 1) (.cons (.tup (.cons (.const (.ty "str")) (.cons (.const (.ty "bytes")) .nil))) .nil))) (.seq (.ret (.var 0)) .skip) .skip) dead))
noncomputable def fn_fspath : Fn := { np := 1, va := false, ns := 4, body := s_fspath }
noncomputable def s_get_sep : S := (.seq (.ite (.op .isInst (.cons (.var 0) (.cons (.const (.ty "bytes")) .nil))) dead (.seq (.ret (.const (.str [47]))) .skip)) .skip)
noncomputable def fn_get_sep : Fn := { np := 1, va := false, ns := 1, body := s_get_sep }
noncomputable def s_law_one : S := (.seq (.ite (.or (.op .eq (.cons (.var 0) (.cons (.const (.str [46])) .nil))) (.op .eq (.cons (.var 0) (.cons (.const (.str [40, 63, 33, 41])) .nil)))) (.seq (.ret (.op .eq (.cons (.var 0) (.cons (.const (.str [46])) .nil)))) .skip) .skip) (.seq (.ite (.op .ne (.cons (.op .index (.cons (.var 0) (.cons (.const (.int 0)) .nil))) (.cons (.const (.str [91])) .nil))) (.seq (.ret (.op .eq (.cons (.op .index (.cons (.var 0) (.cons (.op .neg (.cons (.const (.int 1)) .nil)) .nil))) (.cons (.var 1) .nil)))) .skip) .skip) (.seq (.assign 2 (.op .slice (.cons (.var 0) (.cons (.const (.int 1)) (.cons (.op .neg (.cons (.const (.int 1)) .nil)) .nil))))) (.seq (.assign 3 (.op .eq (.cons (.op .index (.cons (.var 2) (.cons (.const (.int 0)) .nil))) (.cons (.const (.str [94])) .nil)))) (.seq (.assign 4 (.ite (.var 3) (.const (.int 1)) (.const (.int 0)))) (.seq (.assign 5 (.const (.bool false))) (.seq (.while (.op .lt (.cons (.var 4) (.cons (.op .len (.cons (.var 2) .nil)) .nil))) (.seq (.ite (.op .eq (.cons (.op .index (.cons (.var 2) (.cons (.var 4) .nil))) (.cons (.const (.str [92])) .nil))) (.seq (.assign 4 (.op .add (.cons (.var 4) (.cons (.const (.int 1)) .nil)))) .skip) .skip) (.seq (.assign 6 (.op .index (.cons (.var 2) (.cons (.var 4) .nil)))) (.seq (.assign 7 (.var 6)) (.seq (.assign 4 (.op .add (.cons (.var 4) (.cons (.const (.int 1)) .nil)))) (.seq (.ite (.and (.op .lt (.cons (.op .add (.cons (.var 4) (.cons (.const (.int 1)) .nil))) (.cons (.op .len (.cons (.var 2) .nil)) .nil))) (.op .eq (.cons (.op .index (.cons (.var 2) (.cons (.var 4) .nil))) (.cons (.const (.str [45])) .nil)))) (.seq (.assign 4 (.op .add (.cons (.var 4) (.cons (.const (.int 1)) .nil)))) (.seq (.ite (.op .eq (.cons (.op .index (.cons (.var 2) (.cons (.var 4) .nil))) (.cons (.const (.str [92])) .nil))) (.seq (.assign 4 (.op .add (.cons (.var 4) (.cons (.const (.int 1)) .nil)))) .skip) .skip) (.seq (.assign 7 (.op .index (.cons (.var 2) (.cons (.var 4) .nil)))) (.seq (.assign 4 (.op .add (.cons (.var 4) (.cons (.const (.int 1)) .nil)))) .skip)))) .skip) (.seq (.ite (.and (.op .le (.cons (.var 6) (.cons (.var 1) .nil))) (.op .le (.cons (.var 1) (.cons (.var 7) .nil)))) (.seq (.assign 5 (.const (.bool true))) .skip) .skip) .skip))))))) (.seq (.ret (.op .ne (.cons (.var 5) (.cons (.var 3) .nil)))) .skip))))))))
noncomputable def fn_law_one : Fn := { np := 2, va := false, ns := 8, body := s_law_one }
noncomputable def s_law_takes : S := (.seq (.assign 3 (.list (.cons (.const (.int 0)) .nil))) (.seq (.forE 4 (.seqI (.var 0)) (.seq (.ite (.op .is_ (.cons (.var 4) (.cons (.var 1) .nil))) (.seq (.assign 3 (.ite (.var 3) (.op .listOf (.cons (.rangeI (.cons (.op .index (.cons (.var 3) (.cons (.const (.int 0)) .nil))) (.cons (.op .add (.cons (.op .len (.cons (.var 2) .nil)) (.cons (.const (.int 1)) .nil))) .nil))) .nil)) (.list .nil))) .skip) (.seq (.assign 3 (.comp 5 (.seqI (.var 3)) (.and (.op .lt (.cons (.var 5) (.cons (.op .len (.cons (.var 2) .nil)) .nil))) (.call 14 (.cons (.var 4) (.cons (.op .index (.cons (.var 2) (.cons (.var 5) .nil))) .nil)))) (.op .add (.cons (.var 5) (.cons (.const (.int 1)) .nil))))) .skip)) .skip)) (.seq (.ret (.op .in_ (.cons (.op .len (.cons (.var 2) .nil)) (.cons (.var 3) .nil)))) .skip)))
noncomputable def fn_law_takes : Fn := { np := 3, va := false, ns := 6, body := s_law_takes }
noncomputable def s_dirname : S := (.seq (.assign 0 (.call 2 (.cons (.var 0) .nil))) (.seq (.assign 1 (.call 3 (.cons (.var 0) .nil))) (.seq (.assign 2 (.op .add (.cons (.op .rfind (.cons (.var 0) (.cons (.var 1) .nil))) (.cons (.const (.int 1)) .nil)))) (.seq (.assign 3 (.op .slice (.cons (.var 0) (.cons (.const .none) (.cons (.var 2) .nil))))) (.seq (.ite (.and (.var 3) (.op .ne (.cons (.var 3) (.cons (.op .mul (.cons (.var 1) (.cons (.op .len (.cons (.var 3) .nil)) .nil))) .nil)))) (.seq (.assign 3 (.op .rstrip (.cons (.var 3) (.cons (.var 1) .nil)))) .skip) .skip) (.seq (.ret (.var 3)) .skip))))))
noncomputable def fn_dirname : Fn := { np := 1, va := false, ns := 4, body := s_dirname }
noncomputable def s_commonpath : S := (.seq (.assign 0 (.mapF 2 (.var 0))) (.seq (.ite (.not (.var 0)) dead .skip) (.seq (.ite (.op .isInst (.cons (.op .index (.cons (.var 0) (.cons (.const (.int 0)) .nil))) (.cons (.const (.ty "bytes")) .nil))) dead (.seq (.assign 1 (.const (.str [47]))) (.seq (.assign 2 (.const (.str [46]))) .skip))) (.seq (.try_ (.seq (.assign 3 (.comp 11 (.seqI (.var 0)) (.const (.bool true)) (.op .split (.cons (.var 11) (.cons (.var 1) .nil))))) (.seq (.try_ (.seq (.assign 4 (.setI 12 (.seqI (.var 0)) (.op .startswith (.cons (.var 12) (.cons (.var 1) .nil))))) .skip)) (.seq (.assign 3 (.comp 13 (.seqI (.var 3)) (.const (.bool true)) (.comp 14 (.seqI (.var 13)) (.and (.var 14) (.op .ne (.cons (.var 14) (.cons (.var 2) .nil)))) (.var 14)))) (.seq (.assign 6 (.op .min (.cons (.var 3) .nil))) (.seq (.assign 7 (.op .max (.cons (.var 3) .nil))) (.seq (.assign 8 (.var 6)) (.seq (.forE2 9 5 (.enumI (.var 6)) (.seq (.ite (.op .ne (.cons (.var 5) (.cons (.op .index (.cons (.var 7) (.cons (.var 9) .nil))) .nil))) (.seq (.assign 8 (.op .slice (.cons (.var 6) (.cons (.const .none) (.cons (.var 9) .nil))))) (.seq .brk .skip)) .skip) .skip)) (.seq (.assign 10 (.ite (.var 4) (.var 1) (.op .slice (.cons (.var 1) (.cons (.const .none) (.cons (.const (.int 0)) .nil)))))) (.seq (.ret (.op .add (.cons (.var 10) (.cons (.op .join (.cons (.var 1) (.cons (.var 8) .nil))) .nil)))) .skip)))))))))) .skip))))
noncomputable def fn_commonpath : Fn := { np := 1, va := false, ns := 15, body := s_commonpath }
noncomputable def s_law_quoted : S := (.seq (.ret (.op .join (.cons (.const (.str [])) (.cons (.comp 1 (.seqI (.var 0)) (.const (.bool true)) (.ite (.op .in_ (.cons (.var 1) (.cons (.const (.str [42, 63, 91])) .nil))) (.op .add (.cons (.op .add (.cons (.const (.str [91])) (.cons (.var 1) .nil))) (.cons (.const (.str [93])) .nil))) (.var 1))) .nil)))) .skip)
noncomputable def fn_law_quoted : Fn := { np := 1, va := false, ns := 2, body := s_law_quoted }
noncomputable def s_law_alike : S := (.seq (.assign 2 (.const (.int 0))) (.seq (.while (.and (.op .lt (.cons (.var 2) (.cons (.op .len (.cons (.var 0) .nil)) .nil))) (.op .eq (.cons (.op .slice (.cons (.var 0) (.cons (.var 2) (.cons (.op .add (.cons (.var 2) (.cons (.const (.int 1)) .nil))) .nil)))) (.cons (.op .slice (.cons (.var 1) (.cons (.var 2) (.cons (.op .add (.cons (.var 2) (.cons (.const (.int 1)) .nil))) .nil)))) .nil)))) (.seq (.assign 2 (.op .add (.cons (.var 2) (.cons (.const (.int 1)) .nil)))) .skip)) (.seq (.ret (.op .slice (.cons (.var 0) (.cons (.const .none) (.cons (.var 2) .nil))))) .skip)))
noncomputable def fn_law_alike : Fn := { np := 2, va := false, ns := 3, body := s_law_alike }
noncomputable def s_translate4 : S := (.seq (.assignO 3 (.list .nil)) (.seq (.alias 4 3) (.seq (.assign2 5 6 (.tup (.cons (.const (.int 0)) (.cons (.op .len (.cons (.var 0) .nil)) .nil)))) (.seq (.while (.op .lt (.cons (.var 5) (.cons (.var 6) .nil))) (.seq (.assign 7 (.op .index (.cons (.var 0) (.cons (.var 5) .nil)))) (.seq (.assign 5 (.op .add (.cons (.var 5) (.cons (.const (.int 1)) .nil)))) (.seq (.ite (.op .eq (.cons (.var 7) (.cons (.const (.str [42])) .nil))) (.seq (.ite (.or (.not (.var 3)) (.op .isnot (.cons (.op .index (.cons (.var 3) (.cons (.op .neg (.cons (.const (.int 1)) .nil)) .nil))) (.cons (.var 1) .nil)))) (.seq (.appendVia 4 3 (.var 1)) .skip) .skip) .skip) (.seq (.ite (.op .eq (.cons (.var 7) (.cons (.const (.str [63])) .nil))) (.seq (.appendVia 4 3 (.var 2)) .skip) (.seq (.ite (.op .eq (.cons (.var 7) (.cons (.const (.str [91])) .nil))) (.seq (.assign 8 (.var 5)) (.seq (.ite (.and (.op .lt (.cons (.var 8) (.cons (.var 6) .nil))) (.op .eq (.cons (.op .index (.cons (.var 0) (.cons (.var 8) .nil))) (.cons (.const (.str [33])) .nil)))) (.seq (.assign 8 (.op .add (.cons (.var 8) (.cons (.const (.int 1)) .nil)))) .skip) .skip) (.seq (.ite (.and (.op .lt (.cons (.var 8) (.cons (.var 6) .nil))) (.op .eq (.cons (.op .index (.cons (.var 0) (.cons (.var 8) .nil))) (.cons (.const (.str [93])) .nil)))) (.seq (.assign 8 (.op .add (.cons (.var 8) (.cons (.const (.int 1)) .nil)))) .skip) .skip) (.seq (.while (.and (.op .lt (.cons (.var 8) (.cons (.var 6) .nil))) (.op .ne (.cons (.op .index (.cons (.var 0) (.cons (.var 8) .nil))) (.cons (.const (.str [93])) .nil)))) (.seq (.assign 8 (.op .add (.cons (.var 8) (.cons (.const (.int 1)) .nil)))) .skip)) (.seq (.ite (.op .ge (.cons (.var 8) (.cons (.var 6) .nil))) (.seq (.appendVia 4 3 (.const (.str [92, 91]))) .skip) (.seq (.assign 9 (.op .slice (.cons (.var 0) (.cons (.var 5) (.cons (.var 8) .nil))))) (.seq (.ite (.op .notin (.cons (.const (.str [45])) (.cons (.var 9) .nil))) (.seq (.assign 9 (.op .replace (.cons (.var 9) (.cons (.const (.str [92])) (.cons (.const (.str [92, 92])) .nil))))) .skip) dead) (.seq (.assign 9 (.op .resub0 (.cons (.var 9) .nil))) (.seq (.assign 5 (.op .add (.cons (.var 8) (.cons (.const (.int 1)) .nil)))) (.seq (.ite (.not (.var 9)) (.seq (.appendVia 4 3 (.const (.str [40, 63, 33, 41]))) .skip) (.seq (.ite (.op .eq (.cons (.var 9) (.cons (.const (.str [33])) .nil))) (.seq (.appendVia 4 3 (.const (.str [46]))) .skip) (.seq (.ite (.op .eq (.cons (.op .index (.cons (.var 9) (.cons (.const (.int 0)) .nil))) (.cons (.const (.str [33])) .nil))) (.seq (.assign 9 (.op .add (.cons (.const (.str [94])) (.cons (.op .slice (.cons (.var 9) (.cons (.const (.int 1)) (.cons (.const .none) .nil)))) .nil)))) .skip) (.seq (.ite (.op .in_ (.cons (.op .index (.cons (.var 9) (.cons (.const (.int 0)) .nil))) (.cons (.tup (.cons (.const (.str [94])) (.cons (.const (.str [91])) .nil))) .nil))) (.seq (.assign 9 (.op .add (.cons (.const (.str [92])) (.cons (.var 9) .nil)))) .skip) .skip) .skip)) (.seq (.appendVia 4 3 (.op .fmt (.cons (.const (.str [91])) (.cons (.var 9) (.cons (.const (.str [93])) .nil))))) .skip))) .skip)) .skip)))))) .skip))))) (.seq (.appendVia 4 3 (.call 0 (.cons (.var 7) .nil))) .skip)) .skip)) .skip)) .skip)))) (.seq (.assert (.op .eq (.cons (.var 5) (.cons (.var 6) .nil)))) (.seq (.seq (.fz 3) (.ret (.var 3))) .skip))))))
noncomputable def fn_translate4 : Fn := { np := 3, va := false, ns := 13, body := s_translate4 }
noncomputable def s_commonprefix4 : S := (.seq (.ite (.not (.var 0)) (.seq (.ret (.const (.str []))) .skip) .skip) (.seq (.ite (.not (.op .isInst (.cons (.op .index (.cons (.var 0) (.cons (.const (.int 0)) .nil))) (.cons (.tup (.cons (.const (.ty "list")) (.cons (.const (.ty "tuple")) .nil))) .nil)))) (.seq (.assign 0 (.mapF 2 (.var 0))) .skip) .skip) (.seq (.assign 1 (.op .min (.cons (.var 0) .nil))) (.seq (.assign 2 (.op .max (.cons (.var 0) .nil))) (.seq (.forE2 3 4 (.enumI (.var 1)) (.seq (.ite (.op .ne (.cons (.var 4) (.cons (.op .index (.cons (.var 2) (.cons (.var 3) .nil))) .nil))) (.seq (.ret (.op .slice (.cons (.var 1) (.cons (.const .none) (.cons (.var 3) .nil))))) .skip) .skip) .skip)) (.seq (.ret (.var 1)) .skip))))))
noncomputable def fn_commonprefix4 : Fn := { np := 1, va := false, ns := 5, body := s_commonprefix4 }
noncomputable def s_law_drawn : S := (.seq (.assign 1 (.const (.str []))) (.seq (.assign 2 (.op .mod (.cons (.var 0) (.cons (.op .pow (.cons (.const (.int 5)) (.cons (.const (.int 40)) .nil))) .nil)))) (.seq (.while (.and (.op .gt (.cons (.var 2) (.cons (.const (.int 0)) .nil))) (.op .lt (.cons (.op .len (.cons (.var 1) .nil)) (.cons (.const (.int 7)) .nil)))) (.seq (.assign 3 (.op .index (.cons (.const (.str [97, 98, 42, 91, 47])) (.cons (.op .mod (.cons (.var 2) (.cons (.const (.int 5)) .nil))) .nil)))) (.seq (.ite (.or (.op .ne (.cons (.var 3) (.cons (.const (.str [47])) .nil))) (.and (.op .ne (.cons (.var 1) (.cons (.const (.str [])) .nil))) (.op .ne (.cons (.op .index (.cons (.var 1) (.cons (.op .neg (.cons (.const (.int 1)) .nil)) .nil))) (.cons (.const (.str [47])) .nil))))) (.seq (.assign 1 (.op .add (.cons (.var 1) (.cons (.var 3) .nil)))) .skip) .skip) (.seq (.assign 2 (.op .fdiv (.cons (.var 2) (.cons (.const (.int 5)) .nil)))) .skip)))) (.seq (.ret (.or (.op .rstrip (.cons (.var 1) (.cons (.const (.str [47])) .nil))) (.const (.str [97])))) .skip))))
noncomputable def fn_law_drawn : Fn := { np := 1, va := false, ns := 4, body := s_law_drawn }
noncomputable def s_law : S := (.seq (.assignO 2 (.list .nil)) (.seq (.forE 3 (.rangeI (.cons (.const (.int 7)) .nil)) (.seq (.assign 4 (.call 18 (.cons (.op .add (.cons (.op .abs (.cons (.op .sum (.cons (.op .slice3 (.cons (.var 0) (.cons (.var 3) (.cons (.const .none) (.cons (.const (.int 7)) .nil))))) .nil)) .nil)) (.cons (.op .index (.cons (.tup (.cons (.const (.int 10)) (.cons (.const (.int 30)) (.cons (.const (.int 145)) (.cons (.const (.int 770)) (.cons (.const (.int 695)) (.cons (.const (.int 17)) (.cons (.const (.int 1)) .nil)))))))) (.cons (.var 3) .nil))) .nil))) .nil))) (.seq (.ite (.op .notin (.cons (.var 4) (.cons (.var 2) .nil))) (.seq (.append 2 (.var 4)) .skip) .skip) .skip))) (.seq (.assignO 2 (.op .sorted (.cons (.var 2) .nil))) (.seq (.dNew 5) (.seq (.forE 6 (.rangeI (.cons (.op .len (.cons (.var 2) .nil)) .nil)) (.seq (.assign 7 (.op .index (.cons (.var 2) (.cons (.var 6) .nil)))) (.seq (.forE 8 (.rangeI (.cons (.var 6) (.cons (.op .len (.cons (.var 2) .nil)) .nil))) (.seq (.ite (.op .gt (.cons (.var 8) (.cons (.var 6) .nil))) (.seq (.assign 9 (.call 27 (.cons (.op .index (.cons (.var 2) (.cons (.op .sub (.cons (.var 8) (.cons (.const (.int 1)) .nil))) .nil))) (.cons (.op .index (.cons (.var 2) (.cons (.var 8) .nil))) .nil)))) (.seq (.ite (.op .lt (.cons (.op .len (.cons (.var 9) .nil)) (.cons (.op .len (.cons (.var 7) .nil)) .nil))) (.seq (.assign 7 (.var 9)) .skip) .skip) .skip)) .skip) (.seq (.assign 10 (.op .slice (.cons (.var 2) (.cons (.var 6) (.cons (.op .add (.cons (.var 8) (.cons (.const (.int 1)) .nil))) .nil))))) (.seq (.ite (.or (.op .ne (.cons (.call 12 (.cons (.var 10) .nil)) (.cons (.var 7) .nil))) (.op .ne (.cons (.call 12 (.cons (.op .tupleOf (.cons (.op .slice3 (.cons (.var 10) (.cons (.const .none) (.cons (.const .none) (.cons (.op .neg (.cons (.const (.int 1)) .nil)) .nil))))) .nil)) .nil)) (.cons (.var 7) .nil)))) (.seq (.ret (.const (.bool false))) .skip) .skip) (.seq (.ite (.dNot 5 (.var 7)) (.seq (.assign 11 (.call 1 (.cons (.op .add (.cons (.call 26 (.cons (.var 7) .nil)) (.cons (.const (.str [42])) .nil))) (.cons (.var 1) (.cons (.const (.str [46])) .nil))))) (.seq (.seq (.fz 2) (.dSet 5 (.var 7) (.comp 17 (.rangeI (.cons (.op .len (.cons (.var 2) .nil)) .nil)) (.call 15 (.cons (.var 11) (.cons (.var 1) (.cons (.op .index (.cons (.var 2) (.cons (.var 17) .nil))) .nil)))) (.var 17)))) (.seq (.seq (.fz 2) (.ite (.op .ne (.cons (.dGet 5 (.var 7)) (.cons (.comp 18 (.rangeI (.cons (.op .len (.cons (.var 2) .nil)) .nil)) (.op .eq (.cons (.op .slice (.cons (.op .index (.cons (.var 2) (.cons (.var 18) .nil))) (.cons (.const .none) (.cons (.op .len (.cons (.var 7) .nil)) .nil)))) (.cons (.var 7) .nil))) (.var 18)) .nil))) (.seq (.ret (.const (.bool false))) .skip) .skip)) (.seq (.assign 12 (.op .index (.cons (.dGet 5 (.var 7)) (.cons (.const (.int 0)) .nil)))) (.seq (.ite (.op .ne (.cons (.dGet 5 (.var 7)) (.cons (.op .listOf (.cons (.rangeI (.cons (.var 12) (.cons (.op .add (.cons (.var 12) (.cons (.op .len (.cons (.dGet 5 (.var 7)) .nil)) .nil))) .nil))) .nil)) .nil))) (.seq (.ret (.const (.bool false))) .skip) .skip) (.seq (.seq (.fz 2) (.ite (.op .ne (.cons (.call 12 (.cons (.comp 19 (.seqI (.dGet 5 (.var 7))) (.const (.bool true)) (.op .index (.cons (.var 2) (.cons (.var 19) .nil)))) .nil)) (.cons (.var 7) .nil))) (.seq (.ret (.const (.bool false))) .skip) .skip)) .skip)))))) .skip) (.seq (.ite (.or (.op .notin (.cons (.var 6) (.cons (.dGet 5 (.var 7)) .nil))) (.op .notin (.cons (.var 8) (.cons (.dGet 5 (.var 7)) .nil)))) (.seq (.ret (.const (.bool false))) .skip) .skip) (.seq (.assign 13 (.op .eq (.cons (.comp 20 (.seqI (.var 10)) (.op .notin (.cons (.op .slice (.cons (.var 20) (.cons (.op .len (.cons (.var 7) .nil)) (.cons (.op .add (.cons (.op .len (.cons (.var 7) .nil)) (.cons (.const (.int 1)) .nil))) .nil)))) (.cons (.tup (.cons (.const (.str [])) (.cons (.const (.str [47])) .nil))) .nil))) (.var 20)) (.cons (.list .nil) .nil)))) (.seq (.ite (.op .ne (.cons (.call 13 (.cons (.var 10) .nil)) (.cons (.ite (.var 13) (.var 7) (.call 6 (.cons (.var 7) .nil))) .nil))) (.seq (.ret (.const (.bool false))) .skip) .skip) .skip)))))))) .skip))) (.seq (.seq (.dFz 5) (.forE 14 (.dKeys 5) (.seq (.forE 15 (.dKeys 5) (.seq (.assign 16 (.comp 21 (.seqI (.dGet 5 (.var 14))) (.op .in_ (.cons (.var 21) (.cons (.dGet 5 (.var 15)) .nil))) (.var 21))) (.seq (.ite (.and (.op .ne (.cons (.var 16) (.cons (.list .nil) .nil))) (.and (.op .ne (.cons (.var 16) (.cons (.dGet 5 (.var 14)) .nil))) (.op .ne (.cons (.var 16) (.cons (.dGet 5 (.var 15)) .nil))))) (.seq (.ret (.const (.bool false))) .skip) .skip) .skip))) .skip))) (.seq (.ret (.const (.bool true))) .skip)))))))
noncomputable def fn_law : Fn := { np := 1, va := false, ns := 22, body := s_law }
end Mine
end
section W04x
open PySem PySem.Calls PyProof.Rows PySem.Builtin.Str
set_option maxHeartbeats 4000000
namespace Mine
open PySem.Str renaming ofString → os
noncomputable abbrev NN (x : String) : Prop := (os x == os "__classdict__") = false ∧ (os x == os "__debug__") = false
noncomputable abbrev VL (s : Sc) (x : String) (i : Nat) : Prop := s.vars.lookup (os x) = some i
noncomputable abbrev KL (s : Sc) (x : String) (k : NameKind) : Prop := s.kinds.lookup (os x) = some k
theorem nLoc {s : Sc} {x : String} (h : KL s x .local) : s.kinds.lookup (os x) ≠ some .free := nfree h
theorem sVar {cx : XCx} {s : Sc} {x : String} {i : Nat} {pos : Pos} (h : VL s x i) (n : NN x) : Sound cx s (.Name (os x) pos) (.var i) := zi6 h n.1 n.2
theorem zdO : NN "QUESTION_MARK" := ⟨rfl, rfl⟩
theorem zjH : NN "STAR" := ⟨rfl, rfl⟩
theorem nn_add : NN "add" := ⟨rfl, rfl⟩
theorem zfy : NN "alike" := ⟨rfl, rfl⟩
theorem nn_at : NN "at" := ⟨rfl, rfl⟩
theorem zgg : NN "barred" := ⟨rfl, rfl⟩
theorem zcn : NN "body" := ⟨rfl, rfl⟩
theorem zjG : NN "both" := ⟨rfl, rfl⟩
theorem nn_c : NN "c" := ⟨rfl, rfl⟩
theorem zjF : NN "common" := ⟨rfl, rfl⟩
theorem zbZ : NN "count" := ⟨rfl, rfl⟩
theorem zjE : NN "curdir" := ⟨rfl, rfl⟩
theorem nn_ends : NN "ends" := ⟨rfl, rfl⟩
theorem zhH : NN "first" := ⟨rfl, rfl⟩
theorem zlb : NN "found" := ⟨rfl, rfl⟩
theorem zaA : NN "head" := ⟨rfl, rfl⟩
theorem nn_high : NN "high" := ⟨rfl, rfl⟩
theorem nn_i : NN "i" := ⟨rfl, rfl⟩
theorem zla : NN "isabs" := ⟨rfl, rfl⟩
theorem nn_j : NN "j" := ⟨rfl, rfl⟩
theorem nn_k : NN "k" := ⟨rfl, rfl⟩
theorem nn_kind : NN "kind" := ⟨rfl, rfl⟩
theorem zhb : NN "left" := ⟨rfl, rfl⟩
theorem zlN : NN "low" := ⟨rfl, rfl⟩
theorem nn_m : NN "m" := ⟨rfl, rfl⟩
theorem nn_n : NN "n" := ⟨rfl, rfl⟩
theorem zfx : NN "name" := ⟨rfl, rfl⟩
theorem zjD : NN "number" := ⟨rfl, rfl⟩
theorem zgf : NN "one" := ⟨rfl, rfl⟩
theorem zfw : NN "other" := ⟨rfl, rfl⟩
theorem zge : NN "out" := ⟨rfl, rfl⟩
theorem nn_p : NN "p" := ⟨rfl, rfl⟩
theorem zcm : NN "part" := ⟨rfl, rfl⟩
theorem zhG : NN "parts" := ⟨rfl, rfl⟩
theorem zeV : NN "pat" := ⟨rfl, rfl⟩
theorem zcl : NN "path" := ⟨rfl, rfl⟩
theorem nn_paths : NN "paths" := ⟨rfl, rfl⟩
theorem zeU : NN "pattern" := ⟨rfl, rfl⟩
theorem zjC : NN "prefix" := ⟨rfl, rfl⟩
theorem nn_res : NN "res" := ⟨rfl, rfl⟩
theorem nn_rows : NN "rows" := ⟨rfl, rfl⟩
theorem nn_s : NN "s" := ⟨rfl, rfl⟩
theorem nn_s1 : NN "s1" := ⟨rfl, rfl⟩
theorem nn_s2 : NN "s2" := ⟨rfl, rfl⟩
theorem zjB : NN "script" := ⟨rfl, rfl⟩
theorem zdI : NN "sep" := ⟨rfl, rfl⟩
theorem zck : NN "sign" := ⟨rfl, rfl⟩
theorem zfv : NN "some" := ⟨rfl, rfl⟩
theorem zbM : NN "split_paths" := ⟨rfl, rfl⟩
theorem zha : NN "star" := ⟨rfl, rfl⟩
theorem zbp : NN "stuff" := ⟨rfl, rfl⟩
theorem nn_text : NN "text" := ⟨rfl, rfl⟩
noncomputable abbrev fs04 : List (Str × Nat) := [(os "escape", 0), (os "_translate", 1), (os "fspath", 2), (os "_get_sep", 3), (os "dirname", 6), (os "commonprefix", 12), (os "commonpath", 13), (os "_law_one", 14), (os "_law_takes", 15), (os "_law_drawn", 18), (os "_law_quoted", 26), (os "_law_alike", 27), (os "law", 35)]
noncomputable abbrev bs04 : List Str := [os "str", os "bytes", os "list", os "tuple", os "len", os "abs", os "sum", os "isinstance", os "issubclass", os "type", os "range", os "min", os "max", os "sorted", os "map", os "enumerate"]
noncomputable abbrev lamPos04 : Pos := ⟨131, 39, 131, 76⟩
noncomputable abbrev qs04 : List (Pos × Str) := [(lamPos04, (PySem.Str.ofString "_translate.<locals>.") ++ "<lambda>")]
variable {cx : XCx} (N : GN cx fs04 bs04)
include N
theorem zkb : cx.mg (os "_get_sep") = some (.ref (cx.fa 3)) := N.fi 3 rfl
theorem zhm : cx.mg (os "_law_alike") = some (.ref (cx.fa 27)) := N.fi 11 rfl
theorem zhl : cx.mg (os "_law_drawn") = some (.ref (cx.fa 18)) := N.fi 9 rfl
theorem zka : cx.mg (os "_law_one") = some (.ref (cx.fa 14)) := N.fi 7 rfl
theorem zgv : cx.mg (os "_law_quoted") = some (.ref (cx.fa 26)) := N.fi 10 rfl
theorem zhk : cx.mg (os "_law_takes") = some (.ref (cx.fa 15)) := N.fi 8 rfl
theorem zhj : cx.mg (os "_translate") = some (.ref (cx.fa 1)) := N.fi 1 rfl
theorem zgw : cx.mg (os "commonpath") = some (.ref (cx.fa 13)) := N.fi 6 rfl
theorem zbO : cx.mg (os "commonprefix") = some (.ref (cx.fa 12)) := N.fi 5 rfl
theorem zkc : cx.mg (os "dirname") = some (.ref (cx.fa 6)) := N.fi 4 rfl
theorem zlp : cx.mg (os "escape") = some (.ref (cx.fa 0)) := N.fi 0 rfl
theorem zfH : cx.mg (os "fspath") = some (.ref (cx.fa 2)) := N.fi 2 rfl
theorem b_abs : cx.mg (os "abs") = none := N.bi 5 rfl
theorem zhp : cx.mg (os "bytes") = none := N.bi 1 rfl
theorem zen : cx.mg (os "enumerate") = none := N.bi 15 rfl
theorem zbL : cx.mg (os "isinstance") = none := N.bi 7 rfl
theorem zgL : cx.mg (os "issubclass") = none := N.bi 8 rfl
theorem b_len : cx.mg (os "len") = none := N.bi 4 rfl
theorem zkA : cx.mg (os "list") = none := N.bi 2 rfl
theorem b_map : cx.mg (os "map") = none := N.bi 14 rfl
theorem b_max : cx.mg (os "max") = none := N.bi 12 rfl
theorem b_min : cx.mg (os "min") = none := N.bi 11 rfl
theorem zcX : cx.mg (os "range") = none := N.bi 10 rfl
theorem zlz : cx.mg (os "sorted") = none := N.bi 13 rfl
theorem b_str : cx.mg (os "str") = none := N.bi 0 rfl
theorem b_sum : cx.mg (os "sum") = none := N.bi 6 rfl
theorem zfQ : cx.mg (os "tuple") = none := N.bi 3 rfl
theorem b_type : cx.mg (os "type") = none := N.bi 9 rfl
omit N
noncomputable def sc_escape : Sc := { kinds := [(os "pattern", .local), (os "isinstance", .globalImplicit), (os "str", .globalImplicit), (os "_special_chars_map", .globalImplicit)], vars := [(os "pattern", 0)] }
theorem zih {cx : XCx} (N : GN cx fs04 bs04) (TG : TabG cx) (sp : cx.mg (PySem.Str.ofString "_special_chars_map") = some (.ref TG.d)) : SoundSs cx sc_escape (nthBody PySem.Challenge.pw_dn0069_04 17) s_escape := by
  unfold s_escape
  exact (zaa (zaj (zag rfl (zbL N) (by decide) rfl (.builtin _) rfl (.cons (sVar rfl zeU) rfl (.cons (zaU rfl (b_str N) (by decide) rfl rfl) rfl .nil)) zdb) (zaa (zal (zd1 TG rfl rfl (sVar rfl zeU) rfl sp rfl))
  zac) zbf)
  zac)
noncomputable def sc_translate4 (c : Addr) : Sc := { kinds := [(os "pat", .local), (os "STAR", .local), (os "QUESTION_MARK", .local), (os "res", .local), (os "add", .local), (os "i", .local), (os "n", .local), (os "c", .local), (os "j", .local), (os "stuff", .local), (os "chunks", .local), (os "k", .local), (os "chunk", .local), (os "len", .globalImplicit), (os "range", .globalImplicit), (os "_twin_re_1", .globalImplicit), (os "escape", .globalImplicit)], vars := [(os "pat", 0), (os "STAR", 1), (os "QUESTION_MARK", 2), (os "res", 3), (os "add", 4), (os "i", 5), (os "n", 6), (os "c", 7), (os "j", 8), (os "stuff", 9), (os "chunks", 10), (os "k", 11), (os "chunk", 12)], code := some (c, PySem.Str.ofString "_translate.<locals>.") }
theorem zev {cx : XCx} (N : GN cx fs04 bs04) (G : LamG cx) (PG : PatG cx) (tw : cx.mg (PySem.Str.ofString "_twin_re_1") = some (.ref PG.P)) (hq : G.qs = qs04) : SoundSs cx (sc_translate4 G.c) (nthBody PySem.Challenge.pw_dn0069_04 19) s_translate4 := by
  unfold s_translate4
  exact (zaa (zbn rfl (nLoc rfl) (zbk .nil) (fun _ _ _ => rfl))
  (zaa (zf9 rfl (nLoc rfl) rfl nn_res.1 nn_res.2)
  (zaa (zf7 rfl rfl (nLoc rfl) (nLoc rfl) (by decide) (zbQ (.cons (zab rfl) rfl (.cons (zag rfl (b_len N) (by decide) rfl (.builtin _) rfl (.cons (sVar rfl zeV) rfl .nil) zbg) rfl .nil))) (fun _ => rfl) (zkL rfl rfl rfl rfl rfl rfl rfl rfl))
  (zaa (zbr (zae (sVar rfl nn_i) (sVar rfl nn_n) op_lt rfl) (zaa (zad rfl (nLoc rfl) (zai (sVar rfl zeV) (sVar rfl nn_i)) (fun _ _ _ => rfl))
  (zaa (zad rfl (nLoc rfl) (zak (sVar rfl nn_i) (zab rfl) zaH) (fun _ _ _ => rfl))
  (zaa (zaj (zae (sVar rfl nn_c) (zab rfl) op_eq rfl) (zaa (zaj (zap (.or (zcg (sVar rfl nn_res)) (.one (zae (zai (sVar rfl nn_res) (zc5 (zab rfl) zgb (fun h => nomatch h))) (sVar rfl zjH) zk1 rfl)))) (zaa (zaz rfl (show VL _ "res" 3 from rfl) nn_add.1 nn_add.2 (sVar rfl zjH) rfl)
  zac) zac)
  zac) (zaa (zaj (zae (sVar rfl nn_c) (zab rfl) op_eq rfl) (zaa (zaz rfl (show VL _ "res" 3 from rfl) nn_add.1 nn_add.2 (sVar rfl zdO) rfl)
  zac) (zaa (zaj (zae (sVar rfl nn_c) (zab rfl) op_eq rfl) (zaa (zad rfl (nLoc rfl) (sVar rfl nn_i) (fun _ _ _ => rfl))
  (zaa (zaj (zap (.and (zae (sVar rfl nn_j) (sVar rfl nn_n) op_lt rfl) (.one (zae (zai (sVar rfl zeV) (sVar rfl nn_j)) (zab rfl) op_eq rfl)))) (zaa (zad rfl (nLoc rfl) (zak (sVar rfl nn_j) (zab rfl) zaH) (fun _ _ _ => rfl))
  zac) zac)
  (zaa (zaj (zap (.and (zae (sVar rfl nn_j) (sVar rfl nn_n) op_lt rfl) (.one (zae (zai (sVar rfl zeV) (sVar rfl nn_j)) (zab rfl) op_eq rfl)))) (zaa (zad rfl (nLoc rfl) (zak (sVar rfl nn_j) (zab rfl) zaH) (fun _ _ _ => rfl))
  zac) zac)
  (zaa (zbr (zap (.and (zae (sVar rfl nn_j) (sVar rfl nn_n) op_lt rfl) (.one (zae (zai (sVar rfl zeV) (sVar rfl nn_j)) (zab rfl) op_ne rfl)))) (zaa (zad rfl (nLoc rfl) (zak (sVar rfl nn_j) (zab rfl) zaH) (fun _ _ _ => rfl))
  zac))
  (zaa (zaj (zae (sVar rfl nn_j) (sVar rfl nn_n) op_ge rfl) (zaa (zaz rfl (show VL _ "res" 3 from rfl) nn_add.1 nn_add.2 (zab rfl) rfl)
  zac) (zaa (zad rfl (nLoc rfl) (zaw (sVar rfl zeV) (.yes (sVar rfl nn_i)) (.yes (sVar rfl nn_j))) (fun _ _ _ => rfl))
  (zaa (zaj (zae (zab rfl) (sVar rfl zbp) zda rfl) (zaa (zad rfl (nLoc rfl) (zjP rfl rfl (by decide) (sVar rfl zbp) (.cons (zab rfl) rfl (.cons (zab rfl) rfl .nil))) (fun _ _ _ => rfl))
  zac) zbf)
  (zaa (zad rfl (nLoc rfl) (zf6 G PG rfl tw rfl rfl (by rw [hq]; exact .head _) rfl rfl rfl (sVar rfl zbp)) (fun _ _ _ => rfl))
  (zaa (zad rfl (nLoc rfl) (zak (sVar rfl nn_j) (zab rfl) zaH) (fun _ _ _ => rfl))
  (zaa (zaj (zcg (sVar rfl zbp)) (zaa (zaz rfl (show VL _ "res" 3 from rfl) nn_add.1 nn_add.2 (zab (by kernel_rfl)) rfl)
  zac) (zaa (zaj (zae (sVar rfl zbp) (zab rfl) op_eq rfl) (zaa (zaz rfl (show VL _ "res" 3 from rfl) nn_add.1 nn_add.2 (zab rfl) rfl)
  zac) (zaa (zaj (zae (zai (sVar rfl zbp) (zab rfl)) (zab rfl) op_eq rfl) (zaa (zad rfl (nLoc rfl) (zak (zab rfl) (zaw (sVar rfl zbp) (.yes (zab rfl)) .no) zaH) (fun _ _ _ => rfl))
  zac) (zaa (zaj (zae (zai (sVar rfl zbp) (zab rfl)) (zbQ (.cons (zab rfl) rfl (.cons (zab rfl) rfl .nil))) op_in rfl) (zaa (zad rfl (nLoc rfl) (zak (zab rfl) (sVar rfl zbp) zaH) (fun _ _ _ => rfl))
  zac) zac)
  zac))
  (zaa (zaz rfl (show VL _ "res" 3 from rfl) nn_add.1 nn_add.2 (zi7 (sVar rfl zbp) rfl rfl) rfl)
  zac)))
  zac))
  zac))))))
  zac))))) (zaa (zaz rfl (show VL _ "res" 3 from rfl) nn_add.1 nn_add.2 (zay rfl (zlp N) rfl (.cons (sVar rfl nn_c) rfl .nil)) rfl)
  zac))
  zac))
  zac))
  zac))))
  (zaa (zfh (zae (sVar rfl nn_i) (sVar rfl nn_n) op_eq rfl))
  (zaa (zc6 ⟨os "res", rfl⟩ (zal (sVar rfl nn_res)))
  zac))))))
noncomputable def sc_fspath : Sc := { kinds := [(os "path", .local), (os "kind", .local), (os "hook", .local), (os "given", .local), (os "type", .globalImplicit), (os "issubclass", .globalImplicit), (os "str", .globalImplicit), (os "bytes", .globalImplicit), (os "_abc_plain_meta", .globalImplicit), (os "getattr", .globalImplicit), (os "TypeError", .globalImplicit), (os "_plain_name", .globalImplicit), (os "_wall", .globalImplicit), (os "len", .globalImplicit)], vars := [(os "path", 0), (os "kind", 1), (os "hook", 2), (os "given", 3)] }
theorem zig {cx : XCx} (N : GN cx fs04 bs04) : SoundSs cx sc_fspath (nthBody PySem.Challenge.pw_dn0069_04 10) s_fspath := by
  unfold s_fspath
  exact (zaa (zad rfl (nLoc rfl) (zag rfl (b_type N) (by decide) rfl (.type _) rfl (.cons (sVar rfl zcl) rfl .nil) op_tyOf) (fun _ _ _ => rfl))
  (zaa (zaj (zag rfl (zgL N) (by decide) rfl (.builtin _) rfl (.cons (sVar rfl nn_kind) rfl (.cons (zbQ (.cons (zaU rfl (b_str N) (by decide) rfl rfl) rfl (.cons (zaU rfl (zhp N) (by decide) rfl rfl) rfl .nil))) rfl .nil)) zk2) (zaa (zal (sVar rfl zcl))
  zac) zac)
  zbf))
noncomputable def sc_get_sep : Sc := { kinds := [(os "path", .local), (os "isinstance", .globalImplicit), (os "bytes", .globalImplicit)], vars := [(os "path", 0)] }
theorem zgZ {cx : XCx} (N : GN cx fs04 bs04) : SoundSs cx sc_get_sep (nthBody PySem.Challenge.pw_dn0069_04 21) s_get_sep := by
  unfold s_get_sep
  exact (zaa (zaj (zag rfl (zbL N) (by decide) rfl (.builtin _) rfl (.cons (sVar rfl zcl) rfl (.cons (zaU rfl (zhp N) (by decide) rfl rfl) rfl .nil)) zdb) zbf (zaa (zal (zab rfl))
  zac))
  zac)
noncomputable def sc_dirname : Sc := { kinds := [(os "p", .local), (os "sep", .local), (os "i", .local), (os "head", .local), (os "fspath", .globalImplicit), (os "_get_sep", .globalImplicit), (os "len", .globalImplicit)], vars := [(os "p", 0), (os "sep", 1), (os "i", 2), (os "head", 3)] }
theorem zg0 {cx : XCx} (N : GN cx fs04 bs04) : SoundSs cx sc_dirname (nthBody PySem.Challenge.pw_dn0069_04 22) s_dirname := by
  unfold s_dirname
  exact (zaa (zad rfl (nLoc rfl) (zay rfl (zfH N) rfl (.cons (sVar rfl nn_p) rfl .nil)) (fun _ _ _ => rfl))
  (zaa (zad rfl (nLoc rfl) (zay rfl (zkb N) rfl (.cons (sVar rfl nn_p) rfl .nil)) (fun _ _ _ => rfl))
  (zaa (zad rfl (nLoc rfl) (zak (m_rfind rfl rfl (by decide) (sVar rfl nn_p) (.cons (sVar rfl zdI) rfl .nil)) (zab rfl) zaH) (fun _ _ _ => rfl))
  (zaa (zad rfl (nLoc rfl) (zaw (sVar rfl nn_p) .no (.yes (sVar rfl nn_i))) (fun _ _ _ => rfl))
  (zaa (zaj (zap (.and (sVar rfl zaA) (.one (zae (sVar rfl zaA) (zak (sVar rfl zdI) (zag rfl (b_len N) (by decide) rfl (.builtin _) rfl (.cons (sVar rfl zaA) rfl .nil) zbg) op_mul) op_ne rfl)))) (zaa (zad rfl (nLoc rfl) (zhI rfl rfl (by decide) (sVar rfl zaA) (.cons (sVar rfl zdI) rfl .nil)) (fun _ _ _ => rfl))
  zac) zac)
  (zaa (zal (sVar rfl zaA))
  zac))))))
noncomputable def sc_commonprefix4 : Sc := { kinds := [(os "m", .local), (os "s1", .local), (os "s2", .local), (os "i", .local), (os "c", .local), (os "isinstance", .globalImplicit), (os "list", .globalImplicit), (os "tuple", .globalImplicit), (os "map", .globalImplicit), (os "fspath", .globalImplicit), (os "min", .globalImplicit), (os "max", .globalImplicit), (os "enumerate", .globalImplicit)], vars := [(os "m", 0), (os "s1", 1), (os "s2", 2), (os "i", 3), (os "c", 4)] }
theorem zdl {cx : XCx} (N : GN cx fs04 bs04) : SoundSs cx sc_commonprefix4 (nthBody PySem.Challenge.pw_dn0069_04 12) s_commonprefix4 := by
  unfold s_commonprefix4
  exact (zaa (zaj (zcg (sVar rfl nn_m)) (zaa (zal (zab rfl))
  zac) zac)
  (zaa (zaj (zcg (zag rfl (zbL N) (by decide) rfl (.builtin _) rfl (.cons (zai (sVar rfl nn_m) (zab rfl)) rfl (.cons (zbQ (.cons (zaU rfl (zkA N) (by decide) rfl rfl) rfl (.cons (zaU rfl (zfQ N) (by decide) rfl rfl) rfl .nil))) rfl .nil)) zdb)) (zaa (zad rfl (nLoc rfl) (zeN rfl (zfQ N) rfl (b_map N) rfl (zfH N) rfl (sVar rfl nn_m) rfl) (fun _ _ _ => rfl))
  zac) zac)
  (zaa (zad rfl (nLoc rfl) (zag rfl (b_min N) (by decide) rfl (.builtin _) rfl (.cons (sVar rfl nn_m) rfl .nil) zlI) (fun _ _ _ => rfl))
  (zaa (zad rfl (nLoc rfl) (zag rfl (b_max N) (by decide) rfl (.builtin _) rfl (.cons (sVar rfl nn_m) rfl .nil) zlJ) (fun _ _ _ => rfl))
  (zaa (zcK rfl (zen N) rfl rfl (nLoc rfl) (nLoc rfl) (sVar rfl nn_s1) rfl (zaa (zaj (zae (sVar rfl nn_c) (zai (sVar rfl nn_s2) (sVar rfl nn_i)) op_ne rfl) (zaa (zal (zaw (sVar rfl nn_s1) .no (.yes (sVar rfl nn_i))))
  zac) zac)
  zac) (fun _ _ => rfl))
  (zaa (zal (sVar rfl nn_s1))
  zac))))))
noncomputable def sc_commonpath : Sc := { kinds := [(os "paths", .local), (os "sep", .cell), (os "curdir", .cell), (os "split_paths", .local), (os "isabs", .local), (os "c", .local), (os "s1", .local), (os "s2", .local), (os "common", .local), (os "i", .local), (os "prefix", .local), (os "tuple", .globalImplicit), (os "map", .globalImplicit), (os "fspath", .globalImplicit), (os "ValueError", .globalImplicit), (os "isinstance", .globalImplicit), (os "bytes", .globalImplicit), (os "min", .globalImplicit), (os "max", .globalImplicit), (os "enumerate", .globalImplicit), (os "TypeError", .globalImplicit), (os "AttributeError", .globalImplicit), (os "_check_arg_types", .globalImplicit)], vars := [(os "paths", 0), (os "sep", 1), (os "curdir", 2), (os "split_paths", 3), (os "isabs", 4), (os "c", 5), (os "s1", 6), (os "s2", 7), (os "common", 8), (os "i", 9), (os "prefix", 10)] }
theorem zex {cx : XCx} (N : GN cx fs04 bs04) : SoundSs cx sc_commonpath (nthBody PySem.Challenge.pw_dn0069_04 23) s_commonpath := by
  unfold s_commonpath
  exact (zaa (zad rfl (nLoc rfl) (zeN rfl (zfQ N) rfl (b_map N) rfl (zfH N) rfl (sVar rfl nn_paths) rfl) (fun _ _ _ => rfl))
  (zaa (zaj (zcg (sVar rfl nn_paths)) zbf zac)
  (zaa (zaj (zag rfl (zbL N) (by decide) rfl (.builtin _) rfl (.cons (zai (sVar rfl nn_paths) (zab rfl)) rfl (.cons (zaU rfl (zhp N) (by decide) rfl rfl) rfl .nil)) zdb) zbf (zaa (zad rfl (nfree rfl) (zab rfl) (fun _ _ _ => rfl))
  (zaa (zad rfl (nfree rfl) (zab rfl) (fun _ _ _ => rfl))
  zac)))
  (zaa (zeO (zaa (zbo ⟨zax, zbB, (zaO (sVar rfl nn_paths)), zaX rfl, zce, (m_split rfl rfl (by decide) (sVar rfl zcl) (.cons (sVar rfl zdI) rfl .nil)), fun _ _ => rfl⟩ rfl (nLoc rfl) (swapC rfl rfl rfl))
  (zaa (zeO (zaa (zdN rfl (nLoc rfl) ⟨zax, zbB, (zaO (sVar rfl nn_paths)), zaX rfl, zce, (zgl rfl rfl (by decide) (sVar rfl nn_p) (.cons (sVar rfl zdI) rfl .nil)), fun _ _ => rfl⟩ (fun _ => rfl))
  zac))
  (zaa (zbo ⟨zax, zbB, (zaO (sVar rfl zbM)), zaX rfl, zce, (zbx ⟨zax, zbB, (zaO (sVar rfl nn_s)), zaX rfl, (zbP (zap (.and (sVar rfl nn_c) (.one (zae (sVar rfl nn_c) (sVar rfl zjE) op_ne rfl))))), (sVar rfl nn_c), fun _ _ => rfl⟩), fun _ _ => rfl⟩ rfl (nLoc rfl) (swapC rfl rfl rfl))
  (zaa (zad rfl (nLoc rfl) (zag rfl (b_min N) (by decide) rfl (.builtin _) rfl (.cons (sVar rfl zbM) rfl .nil) zlI) (fun _ _ _ => rfl))
  (zaa (zad rfl (nLoc rfl) (zag rfl (b_max N) (by decide) rfl (.builtin _) rfl (.cons (sVar rfl zbM) rfl .nil) zlJ) (fun _ _ _ => rfl))
  (zaa (zad rfl (nLoc rfl) (sVar rfl nn_s1) (fun _ _ _ => rfl))
  (zaa (zcK rfl (zen N) rfl rfl (nLoc rfl) (nLoc rfl) (sVar rfl nn_s1) rfl (zaa (zaj (zae (sVar rfl nn_c) (zai (sVar rfl nn_s2) (sVar rfl nn_i)) op_ne rfl) (zaa (zad rfl (nLoc rfl) (zaw (sVar rfl nn_s1) .no (.yes (sVar rfl nn_i))) (fun _ _ _ => rfl))
  (zaa zf8
  zac)) zac)
  zac) (fun _ _ => rfl))
  (zaa (zad rfl (nLoc rfl) (zci (sVar rfl zla) (sVar rfl zdI) (zaw (sVar rfl zdI) .no (.yes (zab rfl)))) (fun _ _ _ => rfl))
  (zaa (zal (zak (sVar rfl zjC) (zlQ rfl rfl (by decide) (sVar rfl zdI) (.cons (sVar rfl zjF) rfl .nil)) zaH))
  zac))))))))))
  zac))))
noncomputable def sc_law_one : Sc := { kinds := [(os "part", .local), (os "sign", .local), (os "body", .local), (os "barred", .local), (os "k", .local), (os "found", .local), (os "low", .local), (os "high", .local), (os "len", .globalImplicit)], vars := [(os "part", 0), (os "sign", 1), (os "body", 2), (os "barred", 3), (os "k", 4), (os "found", 5), (os "low", 6), (os "high", 7)] }
theorem zgY {cx : XCx} (N : GN cx fs04 bs04) : SoundSs cx sc_law_one (nthBody PySem.Challenge.pw_dn0069_04 25) s_law_one := by
  unfold s_law_one
  exact (zaa (zaj (zap (.or (zae (sVar rfl zcm) (zab rfl) op_eq rfl) (.one (zae (sVar rfl zcm) (zab (by kernel_rfl)) op_eq rfl)))) (zaa (zal (zae (sVar rfl zcm) (zab rfl) op_eq rfl))
  zac) zac)
  (zaa (zaj (zae (zai (sVar rfl zcm) (zab rfl)) (zab rfl) op_ne rfl) (zaa (zal (zae (zai (sVar rfl zcm) (zc5 (zab rfl) zgb (fun h => nomatch h))) (sVar rfl zck) op_eq rfl))
  zac) zac)
  (zaa (zad rfl (nLoc rfl) (zaw (sVar rfl zcm) (.yes (zab rfl)) (.yes (zc5 (zab rfl) zgb (fun h => nomatch h)))) (fun _ _ _ => rfl))
  (zaa (zad rfl (nLoc rfl) (zae (zai (sVar rfl zcn) (zab rfl)) (zab rfl) op_eq rfl) (fun _ _ _ => rfl))
  (zaa (zad rfl (nLoc rfl) (zci (sVar rfl zgg) (zab rfl) (zab rfl)) (fun _ _ _ => rfl))
  (zaa (zad rfl (nLoc rfl) (zab rfl) (fun _ _ _ => rfl))
  (zaa (zbr (zae (sVar rfl nn_k) (zag rfl (b_len N) (by decide) rfl (.builtin _) rfl (.cons (sVar rfl zcn) rfl .nil) zbg) op_lt rfl) (zaa (zaj (zae (zai (sVar rfl zcn) (sVar rfl nn_k)) (zab rfl) op_eq rfl) (zaa (zad rfl (nLoc rfl) (zak (sVar rfl nn_k) (zab rfl) zaH) (fun _ _ _ => rfl))
  zac) zac)
  (zaa (zad rfl (nLoc rfl) (zai (sVar rfl zcn) (sVar rfl nn_k)) (fun _ _ _ => rfl))
  (zaa (zad rfl (nLoc rfl) (sVar rfl zlN) (fun _ _ _ => rfl))
  (zaa (zad rfl (nLoc rfl) (zak (sVar rfl nn_k) (zab rfl) zaH) (fun _ _ _ => rfl))
  (zaa (zaj (zap (.and (zae (zak (sVar rfl nn_k) (zab rfl) zaH) (zag rfl (b_len N) (by decide) rfl (.builtin _) rfl (.cons (sVar rfl zcn) rfl .nil) zbg) op_lt rfl) (.one (zae (zai (sVar rfl zcn) (sVar rfl nn_k)) (zab rfl) op_eq rfl)))) (zaa (zad rfl (nLoc rfl) (zak (sVar rfl nn_k) (zab rfl) zaH) (fun _ _ _ => rfl))
  (zaa (zaj (zae (zai (sVar rfl zcn) (sVar rfl nn_k)) (zab rfl) op_eq rfl) (zaa (zad rfl (nLoc rfl) (zak (sVar rfl nn_k) (zab rfl) zaH) (fun _ _ _ => rfl))
  zac) zac)
  (zaa (zad rfl (nLoc rfl) (zai (sVar rfl zcn) (sVar rfl nn_k)) (fun _ _ _ => rfl))
  (zaa (zad rfl (nLoc rfl) (zak (sVar rfl nn_k) (zab rfl) zaH) (fun _ _ _ => rfl))
  zac)))) zac)
  (zaa (zaj (zap (.and (zae (sVar rfl zlN) (sVar rfl zck) op_le rfl) (.one (zae (sVar rfl zck) (sVar rfl nn_high) op_le rfl)))) (zaa (zad rfl (nLoc rfl) (zab rfl) (fun _ _ _ => rfl))
  zac) zac)
  zac)))))))
  (zaa (zal (zae (sVar rfl zlb) (sVar rfl zgg) op_ne rfl))
  zac))))))))
noncomputable def sc_law_takes : Sc := { kinds := [(os "parts", .local), (os "star", .local), (os "name", .cell), (os "at", .local), (os "part", .cell), (os "list", .globalImplicit), (os "range", .globalImplicit), (os "len", .globalImplicit)], vars := [(os "parts", 0), (os "star", 1), (os "name", 2), (os "at", 3), (os "part", 4)] }
theorem zfk {cx : XCx} (N : GN cx fs04 bs04) : SoundSs cx sc_law_takes (nthBody PySem.Challenge.pw_dn0069_04 26) s_law_takes := by
  unfold s_law_takes
  exact (zaa (zad rfl (nLoc rfl) (zbk (.cons (zab rfl) rfl .nil)) (fun _ _ _ => rfl))
  (zaa (zby rfl (nfree rfl) (zaO (sVar rfl zhG)) (zaa (zaj (zae (sVar rfl zcm) (sVar rfl zha) op_is rfl) (zaa (zad rfl (nLoc rfl) (zci (sVar rfl nn_at) (zch rfl (zkA N) rfl (zcX N) (.cons (zai (sVar rfl nn_at) (zab rfl)) rfl (.cons (zak (zag rfl (b_len N) (by decide) rfl (.builtin _) rfl (.cons (sVar rfl zfx) rfl .nil) zbg) (zab rfl) zaH) rfl .nil))) (zbk .nil)) (fun _ _ _ => rfl))
  zac) (zaa (zbo ⟨zax, zbB, (zaO (sVar rfl nn_at)), zaX rfl, (zbP (zap (.and (zae (sVar rfl nn_p) (zag rfl (b_len N) (by decide) rfl (.builtin _) rfl (.cons (sVar rfl zfx) rfl .nil) zbg) op_lt rfl) (.one (zay rfl (zka N) rfl (.cons (sVar rfl zcm) rfl (.cons (zai (sVar rfl zfx) (sVar rfl nn_p)) rfl .nil))))))), (zak (sVar rfl nn_p) (zab rfl) zaH), fun _ _ => rfl⟩ rfl (nLoc rfl) (swapC rfl rfl rfl))
  zac))
  zac) (fun _ _ => rfl))
  (zaa (zal (zae (zag rfl (b_len N) (by decide) rfl (.builtin _) rfl (.cons (sVar rfl zfx) rfl .nil) zbg) (sVar rfl nn_at) op_in rfl))
  zac)))
noncomputable def sc_law_drawn : Sc := { kinds := [(os "number", .local), (os "out", .local), (os "left", .local), (os "sign", .local), (os "len", .globalImplicit)], vars := [(os "number", 0), (os "out", 1), (os "left", 2), (os "sign", 3)] }
theorem zfl {cx : XCx} (N : GN cx fs04 bs04) : SoundSs cx sc_law_drawn (nthBody PySem.Challenge.pw_dn0069_04 28) s_law_drawn := by
  unfold s_law_drawn
  exact (zaa (zad rfl (nLoc rfl) (zab rfl) (fun _ _ _ => rfl))
  (zaa (zad rfl (nLoc rfl) (zak (sVar rfl zjD) (zak (zab rfl) (zab rfl) op_pow) zlH) (fun _ _ _ => rfl))
  (zaa (zbr (zap (.and (zae (sVar rfl zhb) (zab rfl) op_gt rfl) (.one (zae (zag rfl (b_len N) (by decide) rfl (.builtin _) rfl (.cons (sVar rfl zge) rfl .nil) zbg) (zab rfl) op_lt rfl)))) (zaa (zad rfl (nLoc rfl) (zai (zab (by kernel_rfl)) (zak (sVar rfl zhb) (zab rfl) zlH)) (fun _ _ _ => rfl))
  (zaa (zaj (zap (.or (zae (sVar rfl zck) (zab rfl) op_ne rfl) (.one (zap (.and (zae (sVar rfl zge) (zab rfl) op_ne rfl) (.one (zae (zai (sVar rfl zge) (zc5 (zab rfl) zgb (fun h => nomatch h))) (zab rfl) op_ne rfl))))))) (zaa (zad rfl (nLoc rfl) (zak (sVar rfl zge) (sVar rfl zck) zaH) (fun _ _ _ => rfl))
  zac) zac)
  (zaa (zad rfl (nLoc rfl) (zak (sVar rfl zhb) (zab rfl) op_div) (fun _ _ _ => rfl))
  zac))))
  (zaa (zal (zap (.or (zhI rfl rfl (by decide) (sVar rfl zge) (.cons (zab rfl) rfl .nil)) (.one (zab rfl)))))
  zac))))
noncomputable def sc_law_quoted : Sc := { kinds := [(os "text", .local)], vars := [(os "text", 0)] }
theorem zew {cx : XCx} (N : GN cx fs04 bs04) : SoundSs cx sc_law_quoted (nthBody PySem.Challenge.pw_dn0069_04 27) s_law_quoted := by
  unfold s_law_quoted
  exact (zaa (zal (zlQ rfl rfl (by decide) (zab rfl) (.cons (zbx ⟨zax, zbB, (zaO (sVar rfl nn_text)), zaX rfl, zce, (zci (zae (sVar rfl zck) (zab rfl) op_in rfl) (zak (zak (zab rfl) (sVar rfl zck) zaH) (zab rfl) zaH) (sVar rfl zck)), fun _ _ => rfl⟩) rfl .nil)))
  zac)
noncomputable def sc_law_alike : Sc := { kinds := [(os "one", .local), (os "other", .local), (os "count", .local), (os "len", .globalImplicit)], vars := [(os "one", 0), (os "other", 1), (os "count", 2)] }
theorem zfm {cx : XCx} (N : GN cx fs04 bs04) : SoundSs cx sc_law_alike (nthBody PySem.Challenge.pw_dn0069_04 29) s_law_alike := by
  unfold s_law_alike
  exact (zaa (zad rfl (nLoc rfl) (zab rfl) (fun _ _ _ => rfl))
  (zaa (zbr (zap (.and (zae (sVar rfl zbZ) (zag rfl (b_len N) (by decide) rfl (.builtin _) rfl (.cons (sVar rfl zgf) rfl .nil) zbg) op_lt rfl) (.one (zae (zaw (sVar rfl zgf) (.yes (sVar rfl zbZ)) (.yes (zak (sVar rfl zbZ) (zab rfl) zaH))) (zaw (sVar rfl zfw) (.yes (sVar rfl zbZ)) (.yes (zak (sVar rfl zbZ) (zab rfl) zaH))) op_eq rfl)))) (zaa (zad rfl (nLoc rfl) (zak (sVar rfl zbZ) (zab rfl) zaH) (fun _ _ _ => rfl))
  zac))
  (zaa (zal (zaw (sVar rfl zgf) .no (.yes (sVar rfl zbZ))))
  zac)))
noncomputable def sc_law : Sc := { kinds := [(os "script", .local), (os "star", .cell), (os "paths", .cell), (os "k", .local), (os "path", .local), (os "rows", .cell), (os "i", .local), (os "head", .cell), (os "j", .local), (os "both", .local), (os "some", .local), (os "parts", .cell), (os "first", .local), (os "ends", .local), (os "one", .local), (os "other", .cell), (os "alike", .local), (os "range", .globalImplicit), (os "_law_drawn", .globalImplicit), (os "abs", .globalImplicit), (os "sum", .globalImplicit), (os "sorted", .globalImplicit), (os "len", .globalImplicit), (os "_law_alike", .globalImplicit), (os "commonprefix", .globalImplicit), (os "tuple", .globalImplicit), (os "_translate", .globalImplicit), (os "_law_quoted", .globalImplicit), (os "list", .globalImplicit), (os "commonpath", .globalImplicit), (os "dirname", .globalImplicit)], vars := [(os "script", 0), (os "star", 1), (os "paths", 2), (os "k", 3), (os "path", 4), (os "rows", 5), (os "i", 6), (os "head", 7), (os "j", 8), (os "both", 9), (os "some", 10), (os "parts", 11), (os "first", 12), (os "ends", 13), (os "one", 14), (os "other", 15), (os "alike", 16)] }
theorem snd_law {cx : XCx} (N : GN cx fs04 bs04) : SoundSs cx sc_law ((nthBody PySem.Challenge.pw_dn0069_04 30).drop 1) s_law := by
  unfold s_law
  exact (zaa (zbn rfl (nfree rfl) (zbk .nil) (fun _ _ _ => rfl))
  (zaa (zby rfl (nLoc rfl) (zbs rfl (zcX N) (.cons (zab rfl) rfl .nil)) (zaa (zad rfl (nLoc rfl) (zay rfl (zhl N) rfl (.cons (zak (zag rfl (b_abs N) (by decide) rfl (.builtin _) rfl (.cons (zag rfl (b_sum N) (by decide) rfl (.builtin _) rfl (.cons (zdA (sVar rfl zjB) (.yes (sVar rfl nn_k)) .no (zab rfl)) rfl .nil) op_sum) rfl .nil) op_abs) (zai (zbQ (.cons (zab rfl) rfl (.cons (zab rfl) rfl (.cons (zab rfl) rfl (.cons (zab rfl) rfl (.cons (zab rfl) rfl (.cons (zab rfl) rfl (.cons (zab rfl) rfl .nil)))))))) (sVar rfl nn_k)) zaH) rfl .nil)) (fun _ _ _ => rfl))
  (zaa (zaj (zae (sVar rfl zcl) (sVar rfl nn_paths) zda rfl) (zaa (zfi rfl nn_paths.1 nn_paths.2 rfl (sVar rfl zcl) rfl)
  zac) zac)
  zac)) (fun _ _ => rfl))
  (zaa (zbn rfl (nfree rfl) (zag rfl (zlz N) (by decide) rfl (.builtin _) rfl (.cons (sVar rfl nn_paths) rfl .nil) zjq) (fun _ _ _ => rfl))
  (zaa (zgV rfl (nfree rfl) (fun _ => rfl))
  (zaa (zby rfl (nLoc rfl) (zbs rfl (zcX N) (.cons (zag rfl (b_len N) (by decide) rfl (.builtin _) rfl (.cons (sVar rfl nn_paths) rfl .nil) zbg) rfl .nil)) (zaa (zad rfl (nfree rfl) (zai (sVar rfl nn_paths) (sVar rfl nn_i)) (fun _ _ _ => rfl))
  (zaa (zby rfl (nLoc rfl) (zbs rfl (zcX N) (.cons (sVar rfl nn_i) rfl (.cons (zag rfl (b_len N) (by decide) rfl (.builtin _) rfl (.cons (sVar rfl nn_paths) rfl .nil) zbg) rfl .nil))) (zaa (zaj (zae (sVar rfl nn_j) (sVar rfl nn_i) op_gt rfl) (zaa (zad rfl (nLoc rfl) (zay rfl (zhm N) rfl (.cons (zai (sVar rfl nn_paths) (zak (sVar rfl nn_j) (zab rfl) op_sub)) rfl (.cons (zai (sVar rfl nn_paths) (sVar rfl nn_j)) rfl .nil))) (fun _ _ _ => rfl))
  (zaa (zaj (zae (zag rfl (b_len N) (by decide) rfl (.builtin _) rfl (.cons (sVar rfl zjG) rfl .nil) zbg) (zag rfl (b_len N) (by decide) rfl (.builtin _) rfl (.cons (sVar rfl zaA) rfl .nil) zbg) op_lt rfl) (zaa (zad rfl (nfree rfl) (sVar rfl zjG) (fun _ _ _ => rfl))
  zac) zac)
  zac)) zac)
  (zaa (zad rfl (nLoc rfl) (zaw (sVar rfl nn_paths) (.yes (sVar rfl nn_i)) (.yes (zak (sVar rfl nn_j) (zab rfl) zaH))) (fun _ _ _ => rfl))
  (zaa (zaj (zap (.or (zae (zay rfl (zbO N) rfl (.cons (sVar rfl zfv) rfl .nil)) (sVar rfl zaA) op_ne rfl) (.one (zae (zay rfl (zbO N) rfl (.cons (zag rfl (zfQ N) (by decide) rfl (.type _) rfl (.cons (zdA (sVar rfl zfv) .no .no (zc5 (zab rfl) zgb (fun h => nomatch h))) rfl .nil) zin) rfl .nil)) (sVar rfl zaA) op_ne rfl)))) (zaa (zal (zab rfl))
  zac) zac)
  (zaa (zaj (zid (sVar rfl zaA) rfl nn_rows.1 nn_rows.2) (zaa (zad rfl (nfree rfl) (zay rfl (zhj N) rfl (.cons (zak (zay rfl (zgv N) rfl (.cons (sVar rfl zaA) rfl .nil)) (zab rfl) zaH) rfl (.cons (sVar rfl zha) rfl (.cons (zab rfl) rfl .nil)))) (fun _ _ _ => rfl))
  (zaa (zc6 ⟨os "paths", rfl⟩ (zgU rfl nn_rows.1 nn_rows.2 (sVar rfl zaA) (zbx ⟨zax, zbB, (zbs rfl (zcX N) (.cons (zag rfl (b_len N) (by decide) rfl (.builtin _) rfl (.cons (sVar rfl nn_paths) rfl .nil) zbg) rfl .nil)), zaX rfl, (zbP (zay rfl (zhk N) rfl (.cons (sVar rfl zhG) rfl (.cons (sVar rfl zha) rfl (.cons (zai (sVar rfl nn_paths) (sVar rfl nn_n)) rfl .nil))))), (sVar rfl nn_n), fun _ _ => rfl⟩) (fun _ => rfl)))
  (zaa (zc6 ⟨os "paths", rfl⟩ (zaj (zae (zaI (sVar rfl zaA) rfl nn_rows.1 nn_rows.2) (zbx ⟨zax, zbB, (zbs rfl (zcX N) (.cons (zag rfl (b_len N) (by decide) rfl (.builtin _) rfl (.cons (sVar rfl nn_paths) rfl .nil) zbg) rfl .nil)), zaX rfl, (zbP (zae (zaw (zai (sVar rfl nn_paths) (sVar rfl nn_n)) .no (.yes (zag rfl (b_len N) (by decide) rfl (.builtin _) rfl (.cons (sVar rfl zaA) rfl .nil) zbg))) (sVar rfl zaA) op_eq rfl)), (sVar rfl nn_n), fun _ _ => rfl⟩) op_ne rfl) (zaa (zal (zab rfl))
  zac) zac))
  (zaa (zad rfl (nLoc rfl) (zai (zaI (sVar rfl zaA) rfl nn_rows.1 nn_rows.2) (zab rfl)) (fun _ _ _ => rfl))
  (zaa (zaj (zae (zaI (sVar rfl zaA) rfl nn_rows.1 nn_rows.2) (zch rfl (zkA N) rfl (zcX N) (.cons (sVar rfl zhH) rfl (.cons (zak (sVar rfl zhH) (zag rfl (b_len N) (by decide) rfl (.builtin _) rfl (.cons (zaI (sVar rfl zaA) rfl nn_rows.1 nn_rows.2) rfl .nil) zbg) zaH) rfl .nil))) op_ne rfl) (zaa (zal (zab rfl))
  zac) zac)
  (zaa (zc6 ⟨os "paths", rfl⟩ (zaj (zae (zay rfl (zbO N) rfl (.cons (zbx ⟨zax, zbB, (zaO (zaI (sVar rfl zaA) rfl nn_rows.1 nn_rows.2)), zaX rfl, zce, (zai (sVar rfl nn_paths) (sVar rfl nn_n)), fun _ _ => rfl⟩) rfl .nil)) (sVar rfl zaA) op_ne rfl) (zaa (zal (zab rfl))
  zac) zac))
  zac)))))) zac)
  (zaa (zaj (zap (.or (zae (sVar rfl nn_i) (zaI (sVar rfl zaA) rfl nn_rows.1 nn_rows.2) zda rfl) (.one (zae (sVar rfl nn_j) (zaI (sVar rfl zaA) rfl nn_rows.1 nn_rows.2) zda rfl)))) (zaa (zal (zab rfl))
  zac) zac)
  (zaa (zad rfl (nLoc rfl) (zae (zbx ⟨zax, zbB, (zaO (sVar rfl zfv)), zaX rfl, (zbP (zae (zaw (sVar rfl zcl) (.yes (zag rfl (b_len N) (by decide) rfl (.builtin _) rfl (.cons (sVar rfl zaA) rfl .nil) zbg)) (.yes (zak (zag rfl (b_len N) (by decide) rfl (.builtin _) rfl (.cons (sVar rfl zaA) rfl .nil) zbg) (zab rfl) zaH))) (zbQ (.cons (zab rfl) rfl (.cons (zab rfl) rfl .nil))) zda rfl)), (sVar rfl zcl), fun _ _ => rfl⟩) (zbk .nil) op_eq rfl) (fun _ _ _ => rfl))
  (zaa (zaj (zae (zay rfl (zgw N) rfl (.cons (sVar rfl zfv) rfl .nil)) (zci (sVar rfl nn_ends) (sVar rfl zaA) (zay rfl (zkc N) rfl (.cons (sVar rfl zaA) rfl .nil))) op_ne rfl) (zaa (zal (zab rfl))
  zac) zac)
  zac))))))) (fun _ _ => rfl))
  zac)) (fun _ _ => rfl))
  (zaa (zie (zby rfl (nLoc rfl) (zdB rfl nn_rows.1 nn_rows.2) (zaa (zby rfl (nfree rfl) (zdB rfl nn_rows.1 nn_rows.2) (zaa (zbo ⟨zax, zbB, (zaO (zaI (sVar rfl zgf) rfl nn_rows.1 nn_rows.2)), zaX rfl, (zbP (zae (sVar rfl nn_n) (zaI (sVar rfl zfw) rfl nn_rows.1 nn_rows.2) op_in rfl)), (sVar rfl nn_n), fun _ _ => rfl⟩ rfl (nLoc rfl) (swapC rfl rfl rfl))
  (zaa (zaj (zap (.and (zae (sVar rfl zfy) (zbk .nil) op_ne rfl) (.and (zae (sVar rfl zfy) (zaI (sVar rfl zgf) rfl nn_rows.1 nn_rows.2) op_ne rfl) (.one (zae (sVar rfl zfy) (zaI (sVar rfl zfw) rfl nn_rows.1 nn_rows.2) op_ne rfl))))) (zaa (zal (zab rfl))
  zac) zac)
  zac)) (fun _ _ => rfl))
  zac) (fun _ _ => rfl)))
  (zaa (zal (zab rfl))
  zac)))))))
end Mine
end W04x
section
open PySem
namespace Mine
set_option genInjectivity false in
structure At (pat : List Nat) (p : Nat) (u : List Nat) : Prop where
  drop : pat.drop p = u
  le : p ≤ pat.length
  small : pat.length ≤ 100000
noncomputable def P (p k : Nat) : D := .int ((p + k : Nat) : Int)
noncomputable def N (pat : List Nat) : D := .int (pat.length : Int)
section
variable {pat u : List Nat} {p : Nat}
theorem At.len (H : At pat p u) : pat.length = p + u.length := by
  have := congrArg List.length H.drop
  rw [List.length_drop] at this
  have := H.le
  omega
theorem At.get (H : At pat p u) (k : Nat) : pat[p + k]? = u[k]? := by rw [← H.drop, List.getElem?_drop]
theorem zkO {z : Int} (h1 : 0 ≤ z) (h2 : z ≤ 200000) : small z = true := by
  unfold small
  simp only [Bool.and_eq_true, decide_eq_true_eq]
  omega
theorem At.sm (H : At pat p u) {k : Nat} (hk : k ≤ 100000) : Mine.small ((p + k : Nat) : Int) = true :=
  zkO (Int.natCast_nonneg _) (by have h := Nat.add_le_add (Nat.le_trans H.le H.small) hk; clear hk; omega)
theorem P_add (k j : Nat) : opF .add [P p k, .int (j : Int)] = some (.val (P p (k + j))) := by
  show some (R.val (.int (((p + k : Nat) : Int) + (j : Int)))) = some (R.val (.int ((p + (k + j) : Nat) : Int)))
  rw [show (((p + k : Nat) : Int) + (j : Int)) = ((p + (k + j) : Nat) : Int) by omega]
theorem idx (H : At pat p u) {k : Nat} (hk : k ≤ 100000) : opF .index [.str pat, P p k] = (u[k]?).map fun c => .val (.str [c]) := by
  have hl := H.len
  have hs := H.small
  show (if small ((p + k : Nat) : Int) then (match place ((p + k : Nat) : Int) pat.length with | some k => (pat[k]?).map fun c => R.val (.str [c]) | none => none) else none) = _
  rw [H.sm hk]
  simp only [if_true]
  unfold place
  rw [if_pos (Int.natCast_nonneg _)]
  by_cases h : p + k < pat.length
  · rw [if_pos (by exact_mod_cast h)]
    simp only [Int.toNat_natCast]
    rw [H.get]
  · rw [if_neg (by exact_mod_cast h)]
    rw [← H.get, List.getElem?_eq_none (Nat.not_lt.mp h)]
    rfl
theorem zgX {k : Nat} : (u[k]?).isSome = decide (k < u.length) := by
  by_cases h : k < u.length
  · rw [List.getElem?_eq_getElem h]; simp [h]
  · rw [List.getElem?_eq_none (Nat.not_lt.mp h)]; simp [h]
theorem lt_N (H : At pat p u) {k : Nat} : opF .lt [P p k, N pat] = some (.val (.bool (u[k]?).isSome)) := by
  have hl := H.len
  show some (R.val (.bool (decide (((p + k : Nat) : Int) < (pat.length : Int))))) = _
  rw [zgX]
  congr 4
  simp only [eq_iff_iff]
  omega
theorem ge_N (H : At pat p u) {k : Nat} : opF .ge [P p k, N pat] = some (.val (.bool (!(u[k]?).isSome))) := by
  have hl := H.len
  show some (R.val (.bool (decide ((pat.length : Int) ≤ ((p + k : Nat) : Int))))) = _
  rw [zgX, ← decide_not]
  congr 4
  simp only [eq_iff_iff]
  omega
theorem sl (H : At pat p u) {a b : Nat} (ha : a ≤ 100000) (hb : b ≤ 100000) : opF .slice [.str pat, P p a, P p b] = some (.val (.str (cut u a b))) := by
  have hl := H.len
  have hs := H.small
  have cl : ∀ k d : Nat, k ≤ 100000 → bound (P p k) d pat.length = some (min (p + k) pat.length) := fun k d hk => by
    show (if small ((p + k : Nat) : Int) then some (clip ((p + k : Nat) : Int) pat.length) else none) = _
    rw [H.sm hk]
    simp only [if_true]
    unfold clip
    rw [if_neg (Int.not_lt.mpr (Int.natCast_nonneg _))]
    by_cases h : p + k < pat.length
    · rw [if_pos (by exact_mod_cast h), Int.toNat_natCast, Nat.min_eq_left (Nat.le_of_lt h)]
    · rw [if_neg (by exact_mod_cast h), Nat.min_eq_right (Nat.not_lt.mp h)]
  show (match bound (P p a) 0 pat.length, bound (P p b) pat.length pat.length with
    | some lo, some hi => some (R.val (.str (cut pat lo hi)))
    | _, _ => none) = _
  rw [cl a 0 ha, cl b _ hb]
  show some (R.val (.str (cut pat (min (p + a) pat.length) (min (p + b) pat.length)))) = _
  congr 3
  unfold cut
  rw [← H.drop, List.drop_drop]
  have e1 : pat.drop (min (p + a) pat.length) = pat.drop (p + a) := by
    by_cases h : p + a ≤ pat.length
    · rw [Nat.min_eq_left h]
    · rw [Nat.min_eq_right (Nat.le_of_not_le h), List.drop_eq_nil_of_le (Nat.le_refl _), List.drop_eq_nil_of_le (Nat.le_of_not_le h)]
  rw [e1]
  by_cases h : p + b ≤ pat.length
  · rw [Nat.min_eq_left h]
    by_cases h' : p + a ≤ pat.length
    · rw [Nat.min_eq_left h', Nat.add_sub_add_left]
    · rw [List.drop_eq_nil_of_le (i := p + a) (Nat.le_of_not_le h')]; simp
  · have h2 := Nat.le_of_not_le h
    rw [Nat.min_eq_right h2]
    rw [List.take_of_length_le (by rw [List.length_drop]; clear hs ha hb cl e1 hl h; omega), List.take_of_length_le (by rw [List.length_drop]; clear hs ha hb cl e1 hl h; omega)]
end
end Mine
end
section
open PySem PySem.StrLaws PySem.Builtin PySem.Builtin.Str
namespace Mine
theorem sub1 (a : List Nat) (c i hi : Nat) : (i + (⟨#[c]⟩ : PySem.Str).length ≤ hi ∧ subAt ⟨a.toArray⟩ ⟨#[c]⟩ i = true) ↔ (i < hi ∧ a[i]? = some c) := by
  rw [subAt_eq]
  show (i + 1 ≤ hi ∧ ((a.drop i).take 1 == [c]) = true) ↔ _
  rw [take1_drop]
  exact ⟨fun h => ⟨by omega, h.2⟩, fun h => ⟨by omega, h.2⟩⟩
theorem zkt (b : List Nat) (c : Nat) : Txt.contains ⟨b.toArray⟩ ⟨[c].toArray⟩ = decide (c ∈ b) := found_one ⟨b.toArray⟩ c
theorem zgT (a : List Nat) (c : Nat) : Txt.startswith ⟨a.toArray⟩ ⟨[c].toArray⟩ = decide (a.head? = some c) := by
  unfold Txt.startswith
  have h := sub1 a c 0 a.length
  rw [Bool.eq_iff_iff, Bool.and_eq_true, decide_eq_true_eq, decide_eq_true_eq]
  rw [List.head?_eq_getElem?]
  refine h.trans ⟨fun x => x.2, fun x => ⟨?_, x⟩⟩
  rcases Nat.lt_or_ge 0 a.length with q | q
  · exact q
  · rw [List.getElem?_eq_none q] at x; cases x
theorem zkS {a : List Nat} {c : Nat} (h : c ∉ a) : Txt.rfind ⟨a.toArray⟩ ⟨[c].toArray⟩ = -1 := by
  unfold Txt.rfind
  rcases last_spec ⟨a.toArray⟩ ⟨[c].toArray⟩ with ⟨e, _⟩ | ⟨i, e, hA, _⟩
  · rw [e]
  · exact absurd (List.mem_of_getElem? ((sub1 a c i a.length).mp hA).2) h
theorem zkT {x y : List Nat} {c : Nat} (h : c ∉ y) : Txt.rfind ⟨(x ++ c :: y).toArray⟩ ⟨[c].toArray⟩ = (x.length : Int) := by
  unfold Txt.rfind
  have at' : ∀ i, StrLaws.At ⟨(x ++ c :: y).toArray⟩ ⟨[c].toArray⟩ (PySem.Str.mk (x ++ c :: y).toArray).length i ↔ (i < (x ++ c :: y).length ∧ (x ++ c :: y)[i]? = some c) := fun i => sub1 _ c i _
  rcases last_spec ⟨(x ++ c :: y).toArray⟩ ⟨[c].toArray⟩ with ⟨e, hn⟩ | ⟨i, e, hA, hn⟩
  · exact absurd ((at' x.length).mpr ⟨by simp, by simp⟩) (hn _)
  · rw [e]
    have h1 := ((at' i).mp hA).2
    have : i = x.length := by
      rcases Nat.lt_trichotomy i x.length with q | q | q
      · exact absurd ((at' x.length).mpr ⟨by simp, by simp⟩) (hn _ q)
      · exact q
      · exfalso
        rw [List.getElem?_append_right (Nat.le_of_lt q)] at h1
        obtain ⟨k, hk⟩ : ∃ k, i - x.length = k + 1 := ⟨i - x.length - 1, (Nat.sub_add_cancel (Nat.sub_pos_of_lt q)).symm⟩
        rw [hk, List.getElem?_cons_succ] at h1
        exact h (List.mem_of_getElem? h1)
    rw [this]
theorem rstrip1 (a : List Nat) (c : Nat) : (Txt.rstripChars ⟨a.toArray⟩ ⟨[c].toArray⟩).cps.toList = (a.reverse.dropWhile fun x => x == c).reverse := by
  unfold Txt.rstripChars Txt.stripBy
  have hg : ∀ x : Nat, ([c].toArray).contains x = (x == c) := fun x => by
    by_cases h : x = c
    · subst h; simp
    · rw [beq_eq_false_iff_ne.mpr h]; simpa using h
  have hlo : stripLo ([c].toArray).contains false ⟨a.toArray⟩ = 0 := rfl
  have key : (strSub ⟨a.toArray⟩ 0 (stripHi ([c].toArray).contains true ⟨a.toArray⟩ 0)).cps.toList = (a.reverse.dropWhile fun x => x == c).reverse := by
    rw [strSub_toList]
    unfold stripHi
    simp only [if_true, List.drop_zero, Nat.sub_zero]
    show a.take (a.length - (a.reverse.takeWhile ([c].toArray).contains).length) = _
    have e : ([c].toArray).contains = fun x => x == c := funext hg
    rw [e]
    have h1 := List.takeWhile_append_dropWhile (p := fun x => x == c) (l := a.reverse)
    have h2 : a = (a.reverse.dropWhile fun x => x == c).reverse ++ (a.reverse.takeWhile fun x => x == c).reverse := by
      rw [← List.reverse_append, h1, List.reverse_reverse]
    have h3 : a.length - (a.reverse.takeWhile fun x => x == c).length = (a.reverse.dropWhile fun x => x == c).reverse.length := by
      have := congrArg List.length h2
      rw [List.length_append, List.length_reverse, List.length_reverse] at this
      rw [List.length_reverse]
      omega
    rw [h3]
    have h4 : ∀ u v : List Nat, a = u ++ v → a.take u.length = u := fun u v e => by rw [e, List.take_left' rfl]
    exact h4 _ _ h2
  show (if stripSame ([c].toArray).contains false true ⟨a.toArray⟩ = true then (PySem.Str.mk a.toArray) else stripped ([c].toArray).contains false true ⟨a.toArray⟩).cps.toList = _
  split
  · rename_i hs
    rw [← key]
    unfold stripSame at hs
    rw [hlo] at hs
    simp only [Bool.and_eq_true, beq_iff_eq] at hs
    rw [hs.2, strSub_toList]
    show a = (a.drop 0).take (a.length - 0)
    simp
  · exact key
theorem zjx {a : List Nat} {c lo hi lim : Nat} (hl : 1 ≤ lim) (h : ∀ i, lo ≤ i → i < hi → a[i]? ≠ some c) : occurrences ⟨a.toArray⟩ ⟨[c].toArray⟩ lo hi lim = [] := by
  rw [occ_eq]
  rcases occ_first ⟨a.toArray⟩ ⟨[c].toArray⟩ hi lim hl (List.range' lo (hi + 1 - lo)) lo (fun i hi => by have := List.mem_range'_1.mp hi; omega) with ⟨h0, _⟩ | ⟨pre, b, post, e, h0, hb, hn⟩
  · rw [h0]
  · exfalso
    have h1 := (sub1 a c b hi).mp hb
    have hs : b ∈ List.range' lo (hi + 1 - lo) := by rw [e]; simp
    have := List.mem_range'_1.mp hs
    exact h b this.1 h1.1 h1.2
theorem zjw {a : List Nat} {c lo hi lim i : Nat} (hl : 1 ≤ lim) (h1 : lo ≤ i) (h2 : i < hi) (h3 : a[i]? = some c) (h : ∀ k, lo ≤ k → k < i → a[k]? ≠ some c) : ∃ r, occurrences ⟨a.toArray⟩ ⟨[c].toArray⟩ lo hi lim = i :: r := by
  rw [occ_eq]
  rcases occ_first ⟨a.toArray⟩ ⟨[c].toArray⟩ hi lim hl (List.range' lo (hi + 1 - lo)) lo (fun i hi => by have := List.mem_range'_1.mp hi; omega) with ⟨h0, hn⟩ | ⟨pre, b, post, e, h0, hb, hn⟩
  · exact absurd ((sub1 a c i hi).mpr ⟨h2, h3⟩) (hn i (List.mem_range'_1.mpr ⟨h1, by rw [Nat.add_sub_cancel' (Nat.le_trans h1 (Nat.le_succ_of_le (Nat.le_of_lt h2)))]; exact Nat.lt_succ_of_lt h2⟩))
  · have hs := range'_split_from e
    have hb' := (sub1 a c b hi).mp hb
    have : b = i := by
      rcases Nat.lt_trichotomy b i with q | q | q
      · exact absurd hb'.2 (h b hs.1 q)
      · exact q
      · exact absurd ((sub1 a c i hi).mpr ⟨h2, h3⟩) (hn i (hs.2 i h1 q))
    subst this
    generalize (forIn (List.range' lo (hi + 1 - lo)) ((#[] : Array Nat), lo) (occBody ⟨a.toArray⟩ ⟨[c].toArray⟩ hi lim)).run.fst = arr at h0
    have h1 : arr.toList[0]? = some b := by simpa using h0
    cases hL : arr.toList with
    | nil => rw [hL] at h1; cases h1
    | cons x t => rw [hL] at h1; simp at h1; rw [h1]; exact ⟨t, rfl⟩
theorem noOcc1 (a : List Nat) (c : Nat) : (occurrences ⟨a.toArray⟩ ⟨[c].toArray⟩ 0 a.length (a.length + 1)).isEmpty = !decide (c ∈ a) := by
  by_cases h : c ∈ a
  · obtain ⟨j, hj⟩ := List.getElem?_of_mem h
    rw [decide_eq_true h]
    have hex : ∃ i : Nat, a[i]? = some c ∧ ∀ k : Nat, k < i → a[k]? ≠ some c := by
      clear h
      induction j using Nat.strongRecOn with
      | _ j ih =>
        by_cases q : ∃ k, k < j ∧ a[k]? = some c
        · obtain ⟨k, q1, q2⟩ := q
          exact ih k q1 q2
        · exact ⟨j, hj, fun k hk e => q ⟨k, hk, e⟩⟩
    obtain ⟨i, h1, h2⟩ := hex
    obtain ⟨r, e⟩ := zjw (a := a) (c := c) (lo := 0) (hi := a.length) (lim := a.length + 1) (by omega) (Nat.zero_le i) (List.getElem?_eq_some_iff.mp h1).1 h1 fun k _ => h2 k
    rw [e]; rfl
  · rw [decide_eq_false h, zjx (by omega) (fun i _ _ e => h (List.mem_of_getElem? e) : ∀ i, 0 ≤ i → i < a.length → a[i]? ≠ some c)]
    rfl
noncomputable def firstAt (c : Nat) : List Nat → Option Nat
  | [] => none
  | x :: r => if x = c then some 0 else (firstAt c r).map (· + 1)
section
variable {pat u : List Nat} {p : Nat}
end
noncomputable abbrev Res := Option (List Slot × Out)
section
variable {cf : CfT} {ρ ρ₁ ρ' : List Slot} {o : Out} {res : Res} {a b : S} {x c : X} {d : D} {i j k : Nat}
theorem zao : ex cf .skip ρ = some (ρ, .next) := zhT _
theorem R_brk : ex cf .brk ρ = some (ρ, .brk) := zkh _
noncomputable def after (cf : CfT) (b : S) (ρ : List Slot) : Out → Res
  | .next => ex cf b ρ
  | o => some (ρ, o)
theorem R_seq (h : ex cf a ρ = some (ρ₁, o)) (h2 : after cf b ρ₁ o = res) : ex cf (.seq a b) ρ = res := by
  rw [zki, h]
  cases o <;> exact h2
theorem zaf (h : ex cf b ρ = res) : after cf b ρ .next = res := h
theorem zbv : after cf b ρ .brk = some (ρ, .brk) := rfl
theorem zbA : after cf b ρ .cont = some (ρ, .cont) := rfl
theorem zam : after cf b ρ (.ret d) = some (ρ, .ret d) := rfl
theorem zah (h : ev1 cf x ρ = some d) (h2 : ρ.set i (.val d) = ρ') : ex cf (.assign i x) ρ = some (ρ', .next) := by
  rw [zcG]; rw [h, ← h2]; rfl
theorem zbj (h0 : noApp i ρ = true) {l : List D} (h : ev cf x ρ = some [.own l]) (h2 : ρ.set i (.own l) = ρ') (hd : dSlot i = false := by rfl) : ex cf (.assignO i x) ρ = some (ρ', .next) := by
  rw [zcV]; rw [if_pos h0, h, ← h2]; exact if_neg (by rw [hd]; exact Bool.false_ne_true)
theorem zbH {d1 d2 : D} (h : ev1 cf x ρ = some (.tup [d1, d2])) (h2 : (ρ.set i (.val d1)).set j (.val d2) = ρ') : ex cf (.assign2 i j x) ρ = some (ρ', .next) := by
  rw [zeg]; rw [h, ← h2]
theorem zc1 {l : List D} (h : ownAt ρ j = some l) (h2 : ρ.set i (.app j) = ρ') : ex cf (.alias i j) ρ = some (ρ', .next) := by
  rw [zgz]; rw [h, ← h2]
theorem zb9 {l : List D} (h : ev1 cf x ρ = some d) (h1 : ownAt ρ i = some l) (hl : l.length < lim) (h2 : ρ.set i (.own (l ++ [d])) = ρ') : ex cf (.append i x) ρ = some (ρ', .next) := by
  rw [ze1]; rw [h, h1]; simp only [if_pos hl, h2]
theorem zbm {l : List D} (h0 : ρ[i]? = some (.app j)) (h : ev1 cf x ρ = some d) (h1 : ownAt ρ j = some l) (hl : l.length < lim) (h2 : ρ.set j (.own (l ++ [d])) = ρ') : ex cf (.appendVia i j x) ρ = some (ρ', .next) := by
  rw [zdg]; rw [h0, h, h1]; simp only [if_true, if_pos hl, h2]
theorem R_fz {l : List D} (h : ownAt ρ i = some l) (h2 : ρ.set i (.val (.list l)) = ρ') : ex cf (.fz i) ρ = some (ρ', .next) := by rw [ex_fz, h, ← h2]
theorem R_fz_no (h : ownAt ρ i = none) : ex cf (.fz i) ρ = some (ρ, .next) := by rw [ex_fz, h]
noncomputable def branch (cf : CfT) (a b : S) (ρ : List Slot) : Bool → Res
  | true => ex cf a ρ
  | false => ex cf b ρ
theorem R_ite {t : Bool} (h : evT cf c ρ = some t) (h2 : branch cf a b ρ t = res) : ex cf (.ite c a b) ρ = res := by
  rw [zkf]; rw [h]; cases t <;> exact h2
theorem R_tt (h : ex cf a ρ = res) : branch cf a b ρ true = res := h
theorem R_ff (h : ex cf b ρ = res) : branch cf a b ρ false = res := h
theorem zlD (h : evT cf c ρ = some true) : ex cf (.assert c) ρ = some (ρ, .next) := by rw [ze0]; rw [h]
theorem R_ret (h : ev1 cf x ρ = some d) : ex cf (.ret x) ρ = some (ρ, .ret d) := by rw [zke]; rw [h]; rfl
theorem R_try (h : ex cf b ρ = res) : ex cf (.try_ b) ρ = res := by rw [zhS]; exact h
noncomputable def wOut (cf : CfT) (c : X) (b : S) (n : Nat) (ρ : List Slot) : Out → Res
  | .next => whileGo (evT cf c) (ex cf b) n ρ
  | .cont => whileGo (evT cf c) (ex cf b) n ρ
  | .brk => some (ρ, .next)
  | .ret d => some (ρ, .ret d)
noncomputable def wTurn (cf : CfT) (c : X) (b : S) (n : Nat) (ρ : List Slot) : Bool → Res
  | false => some (ρ, .next)
  | true => match ex cf b ρ with
    | some (ρ', o) => wOut cf c b n ρ' o
    | none => none
theorem zaG {n : Nat} {t : Bool} (h : evT cf c ρ = some t) (h2 : wTurn cf c b n ρ t = res) : whileGo (evT cf c) (ex cf b) (n + 1) ρ = res := by
  unfold whileGo
  rw [h]
  cases t with
  | false => exact h2
  | true =>
    unfold wTurn at h2
    rw [← h2]
    simp only
    cases ex cf b ρ with
    | none => rfl
    | some y =>
      obtain ⟨ρ', o⟩ := y
      cases o <;> rfl
theorem zb7 (h : whileGo (evT cf c) (ex cf b) (99999 + 1) ρ = res) : ex cf (.while c b) ρ = res := by rw [zgx]; exact h
theorem zbF {n : Nat} : wTurn cf c b n ρ false = some (ρ, .next) := rfl
theorem R_wGo {n : Nat} (h : ex cf b ρ = some (ρ₁, o)) (h2 : wOut cf c b n ρ₁ o = res) : wTurn cf c b n ρ true = res := by
  unfold wTurn; rw [h]; exact h2
theorem zb8 {n : Nat} (h : whileGo (evT cf c) (ex cf b) n ρ = res) : wOut cf c b n ρ .next = res := h
theorem zfa {n : Nat} : wOut cf c b n ρ .brk = some (ρ, .next) := rfl
theorem ze9 {n : Nat} : wOut cf c b n ρ (.ret d) = some (ρ, .ret d) := rfl
noncomputable def fOut (cf : CfT) (st : D → List Slot → Option (List Slot)) (b : S) (r : List D) (ρ : List Slot) : Out → Res
  | .next => forGo st (ex cf b) r ρ
  | .cont => forGo st (ex cf b) r ρ
  | .brk => some (ρ, .next)
  | .ret d => some (ρ, .ret d)
theorem zcI {st : D → List Slot → Option (List Slot)} : forGo st (ex cf b) [] ρ = some (ρ, .next) := rfl
theorem zaN {st : D → List Slot → Option (List Slot)} {r : List D} {ρ₂ : List Slot} (h1 : st d ρ = some ρ₁) (h : ex cf b ρ₁ = some (ρ₂, o)) (h2 : fOut cf st b r ρ₂ o = res) : forGo st (ex cf b) (d :: r) ρ = res := by
  unfold forGo
  rw [h1]
  simp only [h]
  cases o <;> exact h2
theorem zbG {st : D → List Slot → Option (List Slot)} {r : List D} (h : forGo st (ex cf b) r ρ = res) : fOut cf st b r ρ .next = res := h
theorem zc0 {st : D → List Slot → Option (List Slot)} {r : List D} (h : forGo st (ex cf b) r ρ = res) : fOut cf st b r ρ .cont = res := h
theorem zer {st : D → List Slot → Option (List Slot)} {r : List D} : fOut cf st b r ρ .brk = some (ρ, .next) := rfl
theorem zeq {st : D → List Slot → Option (List Slot)} {r : List D} : fOut cf st b r ρ (.ret d) = some (ρ, .ret d) := rfl
theorem R_for {l : List D} (h : evI cf x ρ = some l) (h2 : forGo (put1 i) (ex cf b) l ρ = res) : ex cf (.forE i x b) ρ = res := by rw [zhU]; rw [h]; exact h2
theorem zkJ {l : List D} (h : evI cf x ρ = some l) (h2 : forGo (put2 i j) (ex cf b) l ρ = res) : ex cf (.forE2 i j x b) ρ = res := by rw [zgy]; rw [h]; exact h2
theorem put1_eq : put1 i d ρ = some (ρ.set i (.val d)) := rfl
theorem zjm {d1 d2 : D} : put2 i j (.tup [d1, d2]) ρ = some ((ρ.set i (.val d1)).set j (.val d2)) := rfl
end
noncomputable def one (o : Option (List R)) : Option D := match o with
  | some [r] => r.fz
  | _ => none
noncomputable def theItems (o : Option (List R)) : Option (List D) := match o with
  | some [.val (.list l)] => some l
  | _ => none
section
variable {cf : CfT} {ρ : List Slot} {x : X} {r : R}
theorem zdh : ev1 cf x ρ = one (ev cf x ρ) := by
  unfold ev1
  generalize ev cf x ρ = o
  match o with
  | none => rfl
  | some [] => rfl
  | some [_] => rfl
  | some (_ :: _ :: _) => rfl
theorem zcc : evT cf x ρ = truthR (ev cf x ρ) := by
  unfold evT
  generalize ev cf x ρ = o
  match o with
  | none => rfl
  | some _ => rfl
theorem zei : evI cf x ρ = theItems (ev cf x ρ) := by
  unfold evI
  generalize ev cf x ρ = o
  match o with
  | none => rfl
  | some [] => rfl
  | some [.val (.list _)] => rfl
  | some [.val .none] => rfl
  | some [.val (.bool _)] => rfl
  | some [.val (.int _)] => rfl
  | some [.val (.str _)] => rfl
  | some [.val (.tup _)] => rfl
  | some [.val (.tok _)] => rfl
  | some [.val (.ty _)] => rfl
  | some [.own _] => rfl
  | some [.bor _] => rfl
  | some (_ :: _ :: _) => rfl
theorem zbJ : one (some [r]) = r.fz := rfl
theorem zaY {l : List D} : theItems (some [.val (.list l)]) = some l := rfl
theorem zaT : truthR (some [r]) = r.ds.truth := rfl
end
theorem dS3 {α : Type} {x y : α} : (if dSlot 3 = true then x else y) = y := rfl
theorem dS10 {α : Type} {x y : α} : (if dSlot 10 = true then x else y) = y := rfl
noncomputable def appOK (i : Nat) (s : Slot) : Bool := match s with | .app j => j != i | _ => true
theorem zbY (i : Nat) (ρ : List Slot) : noApp i ρ = ρ.all (appOK i) := rfl
theorem zaL {i : Nat} {d : D} : appOK i (.val d) = true := rfl
theorem zaM {i : Nat} {d : List D} : appOK i (.own d) = true := rfl
theorem zbe {i : Nat} : appOK i .unset = true := rfl
theorem zbU {i j : Nat} : appOK i (.app j) = (j != i) := rfl
theorem eq_str (a b : List Nat) : opF .eq [.str a, .str b] = some (.val (.bool (decide (a = b)))) := rfl
theorem ne_str (a b : List Nat) : opF .ne [.str a, .str b] = some (.val (.bool (!decide (a = b)))) := rfl
theorem zct {r : R} : turnD (some [.val (.bool true)]) (some [r]) = r.fz.map some := rfl
theorem o_len {l : List D} : opF .len [.list l] = some (.val (.int (l.length : Int))) := rfl
theorem o_sub {a b : Int} : opF .sub [.int a, .int b] = some (.val (.int (a - b))) := rfl
theorem o_neg {a : Int} : opF .neg [.int a] = some (.val (.int (-a))) := rfl
theorem zcz : opRange [.int 1, .int 0, .int (-1)] = some [.int 1] := rfl
theorem zds {a b : D} : opF .index [.list [a, b], .int 0] = some (.val a) := rfl
theorem zdr {a b : D} : opF .index [.list [a, b], .int 1] = some (.val b) := rfl
theorem zdp {a : Nat} : opF .index [.str [a], .int 0] = some (.val (.str [a])) := rfl
theorem zdo {a : Nat} : opF .index [.str [a], .int (-1)] = some (.val (.str [a])) := rfl
theorem zcy {a b : Nat} : opF .index [.str [a, b], .int (-1)] = some (.val (.str [b])) := rfl
theorem zeT {a : Nat} : opF .slice [.str [a], .none, .int (-1)] = some (.val (.str [])) := rfl
theorem zeS {a b : Nat} : opF .slice [.str [a, b], .none, .int (-1)] = some (.val (.str [a])) := rfl
theorem o_sl1 {a : Nat} : opF .slice [.str [a], .int 1, .none] = some (.val (.str [])) := rfl
theorem zdu : opF .add [.str [], .str []] = some (.val (.str [])) := rfl
theorem zdt {a : Nat} : opF .add [.str [a], .str []] = some (.val (.str [a])) := rfl
theorem zdq {a b : Nat} : opF .join [.str [45], .list [.str [a], .str [b]]] = some (.val (.str [a, 45, b])) := rfl
theorem zcB : opF .join [.str [45], .list [.str []]] = some (.val (.str [])) := rfl
theorem zcA {a : Nat} : opF .join [.str [45], .list [.str [a]]] = some (.val (.str [a])) := rfl
theorem P_add1 {p k : Nat} : opF .add [P p k, .int 1] = some (.val (P p (k + 1))) := P_add k 1
theorem zbS (c : Nat) (b : List Nat) : opF .notin [.str [c], .str b] = some (.val (.bool (!decide (c ∈ b)))) := by
  show some (R.val (.bool (!Txt.contains ⟨b.toArray⟩ ⟨[c].toArray⟩))) = _
  rw [zkt]
theorem zcw {a : List Nat} {c : Nat} {d : List Nat} (h : decide (c ∈ a) = false) : opF .replace [.str a, .str [c], .str d] = some (.val (.str a)) := by
  show (if (occurrences ⟨a.toArray⟩ ⟨[c].toArray⟩ 0 a.length (a.length + 1)).isEmpty = true then some (R.val (.str a)) else none) = _
  rw [noOcc1, h]; rfl
section
variable {pat u : List Nat} {p : Nat}
end
set_option genInjectivity false in
structure Fx0 (pat : List Nat) (I : Nat → D) (n : D) (u : List Nat) : Prop where
  i : ∀ k, k ≤ 100000 → opF .index [.str pat, I k] = (u[k]?).map fun c => .val (.str [c])
  l : ∀ k, opF .lt [I k, n] = some (.val (.bool (u[k]?).isSome))
  g : ∀ k, opF .ge [I k, n] = some (.val (.bool (!(u[k]?).isSome)))
  s : ∀ a b, a ≤ 100000 → b ≤ 100000 → opF .slice [.str pat, I a, I b] = some (.val (.str (cut u a b)))
  a1 : ∀ k, opF .add [I k, .int 1] = some (.val (I (k + 1)))
theorem At.fx0 {pat u : List Nat} {p : Nat} (H : At pat p u) : Fx0 pat (P p) (N pat) u := ⟨fun _ h => idx H h, fun _ => lt_N H, fun _ => ge_N H, fun _ _ h1 h2 => sl H h1 h2, fun _ => P_add1⟩
section
variable {pat v : List Nat} {I : Nat → D} {n : D} {ρ : List Slot} {cf : CfT} {q : D} {r : List D} {j7 j8 j9 j10 j11 j12 j13 : Slot}
theorem zlL {r : List D} {d : D} : opF .index [.list (r ++ [d]), .int (-1)] = some (.val d) := by
  show (if small (-1) = true then (match place (-1) (r ++ [d]).length with | some k => ((r ++ [d])[k]?).map R.val | none => none) else none) = _
  rw [if_pos (by decide)]
  unfold place
  rw [if_neg (by decide), if_pos (by simp; omega)]
  have e : (-1 + ((r ++ [d]).length : Int)).toNat = r.length := by simp; omega
  simp only [e]
  simp
theorem zeI {r : List D} {d : D} : (r ++ [d]).isEmpty = false := by
  cases r <;> rfl
end
theorem zcs {fns : Nat → Option Fn} {n f : Nat} {args : List D} {fn : Fn} {ρ : List Slot} {d : D} (h1 : fns f = some fn) (h2 : bindD fn args = some ρ) (h3 : ∃ ρ', ex (callF fns n) fn.body ρ = some (ρ', .ret d)) : callF fns (n + 1) f args = some d := by
  obtain ⟨ρ', h3⟩ := h3
  unfold callF
  rw [h1]
  simp only [h2, h3]
noncomputable def esc (c : Nat) : List Nat := if special.contains c then [92, c] else [c]
noncomputable def EscOK (cf : CfT) : Prop := ∀ c, c < 128 → cf 0 [.str [c]] = some (.str (esc c))
theorem zg8 {c : Nat} (h : c < 128) : opF .translate [.str [c]] = some (.val (.str (esc c))) := by
  show (if c < 128 then some (R.val (.str (if special.contains c then [92, c] else [c]))) else none) = _
  rw [if_pos h]; rfl
theorem zkn {fns : Nat → Option Fn} (h0 : fns 0 = some fn_escape) (m : Nat) : EscOK (callF fns (m + 1)) := by
  intro c hc
  refine zcs h0 (ρ := [.val (.str [c])]) rfl ?_
  show ∃ ρ', ex (callF fns m) s_escape _ = _
  unfold s_escape
  refine ⟨_, R_seq (R_ite (t := true) rfl (R_tt (R_seq (R_ret (d := .str (esc c)) ?_) zam))) zam⟩
  simp only [zdh, zaE, zbl, zcb, zbE, za2, zbh, za4, zbD, zbc, zbd, zbb, zbC, zbi, zba, za7, za6, za1, za9, zaD, zaV, za8, List.getElem?_cons_zero, List.map_cons, List.map_nil, R.ds, zg8 hc, Option.map_some, zbJ, R.fz]
noncomputable def GoodD (d : D) : Prop := opF .isnot [d, .tok 0] = some (.val (.bool true))
noncomputable def GoodL (r : List D) : Prop := ∀ d ∈ r, GoodD d ∨ d = .tok 0
noncomputable def isTok0 : D → Bool
  | .tok 0 => true
  | _ => false
theorem zjY {d : D} (h : isTok0 d = true) : d = .tok 0 := by
  unfold isTok0 at h
  split at h
  · rfl
  · cases h
noncomputable def pushA (r : List D) : Option D → List D
  | none => if r.getLast?.map isTok0 = some true then r else r ++ [.tok 0]
  | some d => r ++ [d]
theorem At.skip {pat u : List Nat} {p k : Nat} (H : At pat p u) (h : k ≤ u.length) : At pat (p + k) (u.drop k) := by
  refine ⟨?_, ?_, H.small⟩
  · rw [← List.drop_drop, H.drop]
  · have := H.len; omega
theorem P_skip {p k : Nat} : P (p + k) 0 = P p k := by unfold P; rfl
noncomputable def outA (r : List D) (as : List (List Nat × Option D)) : List D := as.foldl (fun r a => pushA r a.2) r
noncomputable def textA (as : List (List Nat × Option D)) : List Nat := as.flatMap (·.1)
theorem zim {r : List D} {a : Option D} (h : GoodL r) (ha : ∀ d, a = some d → GoodD d ∨ d = .tok 0) : GoodL (pushA r a) := by
  unfold pushA
  cases a with
  | none =>
    simp only
    split
    · exact h
    · intro d hd
      rcases List.mem_append.mp hd with hd | hd
      · exact h d hd
      · exact .inr (List.mem_singleton.mp hd)
  | some d0 =>
    intro d hd
    rcases List.mem_append.mp hd with hd | hd
    · exact h d hd
    · rw [List.mem_singleton.mp hd]; exact ha d0 rfl
theorem zjn {r : List D} {a : Option D} : (pushA r a).length ≤ r.length + 1 := by
  unfold pushA
  cases a with
  | none => simp only; split <;> simp
  | some d => simp
end Mine
end
section
open PySem
namespace Mine
noncomputable def fns04 : Nat → Option Fn := fun i => ([(0, fn_escape), (1, fn_translate4), (2, fn_fspath), (3, fn_get_sep), (6, fn_dirname), (12, fn_commonprefix4), (13, fn_commonpath), (14, fn_law_one), (15, fn_law_takes), (18, fn_law_drawn), (26, fn_law_quoted), (27, fn_law_alike)] : List (Nat × Fn)).lookup i
end Mine
end
section
open PySem PySem.StrLaws PySem.Builtin PySem.Builtin.Str
namespace Mine
noncomputable def tBody4 : S := match s_translate4 with
  | .seq _ (.seq _ (.seq _ (.seq (.while _ b) _))) => b
  | _ => .skip
noncomputable def tCond4 : X := match s_translate4 with
  | .seq _ (.seq _ (.seq _ (.seq (.while c _) _))) => c
  | _ => .nil
inductive TState4 (pat : List Nat) (n : D) (q : D) (r : List D) (i : D) (ρ : List Slot) : Prop
  | mk (j7 j8 j9 j10 j11 j12 : Slot) (h0 : ρ = [.val (.str pat), .val (.tok 0), .val q, .own r, .app 3, .val i, .val n, j7, j8, j9, j10, j11, j12]) (h7 : appOK 10 j7 = true) (h8 : appOK 10 j8 = true) (h9 : appOK 10 j9 = true) (h10 : appOK 10 j10 = true) (h11 : appOK 10 j11 = true) (h12 : appOK 10 j12 = true)
section
variable {pat v : List Nat} {I : Nat → D} {n : D} {ρ : List Slot} {cf : CfT} {q : D} {r : List D} {j7 j8 j9 j10 j11 j12 : Slot}
theorem zfX (H : Fx0 pat I n (42 :: v)) (S : TState4 pat n q [] (I 0) ρ) : ∃ ρ', ex cf tBody4 ρ = some (ρ', .next) ∧ TState4 pat n q [.tok 0] (I 1) ρ' := by
  obtain ⟨hi, hl, hg, hs, ha1⟩ := H
  obtain ⟨j7, j8, j9, j10, j11, j12, rfl, h7, h8, h9, h10, h11, h12⟩ := S
  refine ⟨?w, ?h1, ?h2⟩
  case h1 =>
    unfold tBody4 s_translate4
    (repeat' (first | with_reducible (first | exact zao | exact R_brk | apply R_seq | exact zbv | exact zbA | exact zam | refine zaf ?_ | apply R_ite | refine R_tt ?_ | refine R_ff ?_ | apply zb7 | apply zaG | exact zbF | apply R_wGo | refine zb8 ?_ | exact zfa | exact ze9 | apply R_for | exact zcI | apply zaN | refine zbG ?_ | refine zc0 ?_ | exact zer | exact zeq | apply zah | apply zbH | apply zbm | apply zb9 | apply zc1 | apply R_ret | apply zbj | apply R_fz) | (((try simp (config := {failIfUnchanged := false}) only [zdh, zcc, zei, zbJ, zaY, zaT, zaE, zbl, zcb, zbE, za2, zbh, za4, zbD, zbc, zbd, zbb, zbC, zbi, zba, za7, za6, za1, za9, zaD, zaV, za8, fzAll, ownAt, dS3, dS10, Mine.R.ds, Mine.R.fz, Mine.D.truth, List.map_cons, List.map_nil, List.getElem?_cons_zero, List.getElem?_cons_succ, List.getElem?_nil, Option.map_some, Option.map_none, List.set_cons_zero, List.set_cons_succ, eq_str, ne_str, zbS, zcw, List.cons.injEq, and_true, and_false, true_and, false_and, Nat.reduceEqDiff, decide_true, decide_false, reduceCtorEq, Bool.not_true, Bool.not_false, Nat.reduceAdd, List.isEmpty_cons, List.isEmpty_nil, Nat.reduceLeDiff, Nat.zero_le, Option.isSome_some, Option.isSome_none, zbY, List.all_cons, List.all_nil, zaL, zaM, zbe, zbU, Bool.and_true, Bool.true_and, cut, List.drop_succ_cons, List.drop_zero, List.take_succ_cons, List.take_zero, Nat.reduceSub, firstAt, reduceIte, List.mem_cons, List.not_mem_nil, or_false, false_or, or_true, true_or, itemsOf, Option.bind_some, o_len, o_sub, o_neg, zcz, zds, zdr, zdp, zdo, zcy, zeT, zeS, o_sl1, zdu, zdt, zdq, zcB, zcA, List.nil_append, List.cons_append, List.length_cons, List.length_nil, Int.reduceSub, Int.reduceNeg, Int.reduceToNat, Int.toNat_zero, Int.toNat_one, Int.reduceAdd, Int.cast_ofNat_Int, Int.natCast_one, Int.natCast_zero, Int.zero_add, Nat.zero_add, List.eraseIdx_cons_succ, List.eraseIdx_cons_zero, Nat.reduceLT, compGo, zct, repX, *]) <;> rfl)) | (show (_ : Nat) < lim; decide) | decide))
  case h2 =>
    refine ⟨_, _, _, _, _, _, rfl, ?_, ?_, ?_, ?_, ?_, ?_⟩ <;> first | exact zaL | exact zaM | assumption
theorem zfW (H : Fx0 pat I n (42 :: v)) (S : TState4 pat n q (r ++ [.tok 0]) (I 0) ρ) : ∃ ρ', ex cf tBody4 ρ = some (ρ', .next) ∧ TState4 pat n q (r ++ [.tok 0]) (I 1) ρ' := by
  obtain ⟨hi, hl, hg, hs, ha1⟩ := H
  obtain ⟨j7, j8, j9, j10, j11, j12, rfl, h7, h8, h9, h10, h11, h12⟩ := S
  have t1 := zeI (r := r) (d := .tok 0)
  have t2 := zlL (r := r) (d := .tok 0)
  have t3 : opF .isnot [.tok 0, .tok 0] = some (.val (.bool false)) := rfl
  refine ⟨?w, ?h1, ?h2⟩
  case h1 =>
    unfold tBody4 s_translate4
    (repeat' (first | with_reducible (first | exact zao | exact R_brk | apply R_seq | exact zbv | exact zbA | exact zam | refine zaf ?_ | apply R_ite | refine R_tt ?_ | refine R_ff ?_ | apply zb7 | apply zaG | exact zbF | apply R_wGo | refine zb8 ?_ | exact zfa | exact ze9 | apply R_for | exact zcI | apply zaN | refine zbG ?_ | refine zc0 ?_ | exact zer | exact zeq | apply zah | apply zbH | apply zbm | apply zb9 | apply zc1 | apply R_ret | apply zbj | apply R_fz) | (((try simp (config := {failIfUnchanged := false}) only [zdh, zcc, zei, zbJ, zaY, zaT, zaE, zbl, zcb, zbE, za2, zbh, za4, zbD, zbc, zbd, zbb, zbC, zbi, zba, za7, za6, za1, za9, zaD, zaV, za8, fzAll, ownAt, dS3, dS10, Mine.R.ds, Mine.R.fz, Mine.D.truth, List.map_cons, List.map_nil, List.getElem?_cons_zero, List.getElem?_cons_succ, List.getElem?_nil, Option.map_some, Option.map_none, List.set_cons_zero, List.set_cons_succ, eq_str, ne_str, zbS, zcw, List.cons.injEq, and_true, and_false, true_and, false_and, Nat.reduceEqDiff, decide_true, decide_false, reduceCtorEq, Bool.not_true, Bool.not_false, Nat.reduceAdd, List.isEmpty_cons, List.isEmpty_nil, Nat.reduceLeDiff, Nat.zero_le, Option.isSome_some, Option.isSome_none, zbY, List.all_cons, List.all_nil, zaL, zaM, zbe, zbU, Bool.and_true, Bool.true_and, cut, List.drop_succ_cons, List.drop_zero, List.take_succ_cons, List.take_zero, Nat.reduceSub, firstAt, reduceIte, List.mem_cons, List.not_mem_nil, or_false, false_or, or_true, true_or, itemsOf, Option.bind_some, o_len, o_sub, o_neg, zcz, zds, zdr, zdp, zdo, zcy, zeT, zeS, o_sl1, zdu, zdt, zdq, zcB, zcA, List.nil_append, List.cons_append, List.length_cons, List.length_nil, Int.reduceSub, Int.reduceNeg, Int.reduceToNat, Int.toNat_zero, Int.toNat_one, Int.reduceAdd, Int.cast_ofNat_Int, Int.natCast_one, Int.natCast_zero, Int.zero_add, Nat.zero_add, List.eraseIdx_cons_succ, List.eraseIdx_cons_zero, Nat.reduceLT, compGo, zct, repX, *]) <;> rfl)) | (show (_ : Nat) < lim; decide) | decide))
  case h2 =>
    refine ⟨_, _, _, _, _, _, rfl, ?_, ?_, ?_, ?_, ?_, ?_⟩ <;> first | exact zaL | exact zaM | assumption
theorem zfV {d : D} (hd : opF .isnot [d, .tok 0] = some (.val (.bool true))) (hr : (r ++ [d]).length < lim) (H : Fx0 pat I n (42 :: v)) (S : TState4 pat n q (r ++ [d]) (I 0) ρ) : ∃ ρ', ex cf tBody4 ρ = some (ρ', .next) ∧ TState4 pat n q (r ++ [d] ++ [.tok 0]) (I 1) ρ' := by
  obtain ⟨hi, hl, hg, hs, ha1⟩ := H
  obtain ⟨j7, j8, j9, j10, j11, j12, rfl, h7, h8, h9, h10, h11, h12⟩ := S
  have t1 := zeI (r := r) (d := d)
  have t2 := zlL (r := r) (d := d)
  refine ⟨?w, ?h1, ?h2⟩
  case h1 =>
    unfold tBody4 s_translate4
    (repeat' (first | with_reducible (first | exact zao | exact R_brk | apply R_seq | exact zbv | exact zbA | exact zam | refine zaf ?_ | apply R_ite | refine R_tt ?_ | refine R_ff ?_ | apply zb7 | apply zaG | exact zbF | apply R_wGo | refine zb8 ?_ | exact zfa | exact ze9 | apply R_for | exact zcI | apply zaN | refine zbG ?_ | refine zc0 ?_ | exact zer | exact zeq | apply zah | apply zbH | apply zbm | apply zb9 | apply zc1 | apply R_ret | apply zbj | apply R_fz) | (((try simp (config := {failIfUnchanged := false}) only [zdh, zcc, zei, zbJ, zaY, zaT, zaE, zbl, zcb, zbE, za2, zbh, za4, zbD, zbc, zbd, zbb, zbC, zbi, zba, za7, za6, za1, za9, zaD, zaV, za8, fzAll, ownAt, dS3, dS10, Mine.R.ds, Mine.R.fz, Mine.D.truth, List.map_cons, List.map_nil, List.getElem?_cons_zero, List.getElem?_cons_succ, List.getElem?_nil, Option.map_some, Option.map_none, List.set_cons_zero, List.set_cons_succ, eq_str, ne_str, zbS, zcw, List.cons.injEq, and_true, and_false, true_and, false_and, Nat.reduceEqDiff, decide_true, decide_false, reduceCtorEq, Bool.not_true, Bool.not_false, Nat.reduceAdd, List.isEmpty_cons, List.isEmpty_nil, Nat.reduceLeDiff, Nat.zero_le, Option.isSome_some, Option.isSome_none, zbY, List.all_cons, List.all_nil, zaL, zaM, zbe, zbU, Bool.and_true, Bool.true_and, cut, List.drop_succ_cons, List.drop_zero, List.take_succ_cons, List.take_zero, Nat.reduceSub, firstAt, reduceIte, List.mem_cons, List.not_mem_nil, or_false, false_or, or_true, true_or, itemsOf, Option.bind_some, o_len, o_sub, o_neg, zcz, zds, zdr, zdp, zdo, zcy, zeT, zeS, o_sl1, zdu, zdt, zdq, zcB, zcA, List.nil_append, List.cons_append, List.length_cons, List.length_nil, Int.reduceSub, Int.reduceNeg, Int.reduceToNat, Int.toNat_zero, Int.toNat_one, Int.reduceAdd, Int.cast_ofNat_Int, Int.natCast_one, Int.natCast_zero, Int.zero_add, Nat.zero_add, List.eraseIdx_cons_succ, List.eraseIdx_cons_zero, Nat.reduceLT, compGo, zct, repX, *]) <;> rfl)) | (show (_ : Nat) < lim; decide) | decide))
  case h2 =>
    refine ⟨_, _, _, _, _, _, rfl, ?_, ?_, ?_, ?_, ?_, ?_⟩ <;> first | exact zaL | exact zaM | assumption
theorem zgO {c : Nat} {e : List Nat} (c1 : ¬ c = 42) (c2 : ¬ c = 63) (c3 : ¬ c = 91) (hE : cf 0 [.str [c]] = some (.str e)) (hr : r.length < lim) (H : Fx0 pat I n (c :: v)) (S : TState4 pat n q r (I 0) ρ) : ∃ ρ', ex cf tBody4 ρ = some (ρ', .next) ∧ TState4 pat n q (r ++ [.str e]) (I 1) ρ' := by
  obtain ⟨hi, hl, hg, hs, ha1⟩ := H
  obtain ⟨j7, j8, j9, j10, j11, j12, rfl, h7, h8, h9, h10, h11, h12⟩ := S
  refine ⟨?w, ?h1, ?h2⟩
  case h1 =>
    unfold tBody4 s_translate4
    (repeat' (first | with_reducible (first | exact zao | exact R_brk | apply R_seq | exact zbv | exact zbA | exact zam | refine zaf ?_ | apply R_ite | refine R_tt ?_ | refine R_ff ?_ | apply zb7 | apply zaG | exact zbF | apply R_wGo | refine zb8 ?_ | exact zfa | exact ze9 | apply R_for | exact zcI | apply zaN | refine zbG ?_ | refine zc0 ?_ | exact zer | exact zeq | apply zah | apply zbH | apply zbm | apply zb9 | apply zc1 | apply R_ret | apply zbj | apply R_fz) | (((try simp (config := {failIfUnchanged := false}) only [zdh, zcc, zei, zbJ, zaY, zaT, zaE, zbl, zcb, zbE, za2, zbh, za4, zbD, zbc, zbd, zbb, zbC, zbi, zba, za7, za6, za1, za9, zaD, zaV, za8, fzAll, ownAt, dS3, dS10, Mine.R.ds, Mine.R.fz, Mine.D.truth, List.map_cons, List.map_nil, List.getElem?_cons_zero, List.getElem?_cons_succ, List.getElem?_nil, Option.map_some, Option.map_none, List.set_cons_zero, List.set_cons_succ, eq_str, ne_str, zbS, zcw, List.cons.injEq, and_true, and_false, true_and, false_and, Nat.reduceEqDiff, decide_true, decide_false, reduceCtorEq, Bool.not_true, Bool.not_false, Nat.reduceAdd, List.isEmpty_cons, List.isEmpty_nil, Nat.reduceLeDiff, Nat.zero_le, Option.isSome_some, Option.isSome_none, zbY, List.all_cons, List.all_nil, zaL, zaM, zbe, zbU, Bool.and_true, Bool.true_and, cut, List.drop_succ_cons, List.drop_zero, List.take_succ_cons, List.take_zero, Nat.reduceSub, firstAt, reduceIte, List.mem_cons, List.not_mem_nil, or_false, false_or, or_true, true_or, itemsOf, Option.bind_some, o_len, o_sub, o_neg, zcz, zds, zdr, zdp, zdo, zcy, zeT, zeS, o_sl1, zdu, zdt, zdq, zcB, zcA, List.nil_append, List.cons_append, List.length_cons, List.length_nil, Int.reduceSub, Int.reduceNeg, Int.reduceToNat, Int.toNat_zero, Int.toNat_one, Int.reduceAdd, Int.cast_ofNat_Int, Int.natCast_one, Int.natCast_zero, Int.zero_add, Nat.zero_add, List.eraseIdx_cons_succ, List.eraseIdx_cons_zero, Nat.reduceLT, compGo, zct, repX, *]) <;> rfl)) | (show (_ : Nat) < lim; decide) | decide))
  case h2 =>
    refine ⟨_, _, _, _, _, _, rfl, ?_, ?_, ?_, ?_, ?_, ?_⟩ <;> first | exact zaL | exact zaM | assumption
theorem ziT (H : Fx0 pat I n (91 :: 42 :: 93 :: v)) (hr : r.length < lim) (S : TState4 pat n q r (I 0) ρ) : ∃ ρ', ex cf tBody4 ρ = some (ρ', .next) ∧ TState4 pat n q (r ++ [.str [91, 42, 93]]) (I 3) ρ' := by
  obtain ⟨hi, hl, hg, hs, ha1⟩ := H
  obtain ⟨j7, j8, j9, j10, j11, j12, rfl, h7, h8, h9, h10, h11, h12⟩ := S
  refine ⟨?w, ?h1, ?h2⟩
  case h1 =>
    unfold tBody4 s_translate4
    (repeat' (first | with_reducible (first | exact zao | exact R_brk | apply R_seq | exact zbv | exact zbA | exact zam | refine zaf ?_ | apply R_ite | refine R_tt ?_ | refine R_ff ?_ | apply zb7 | apply zaG | exact zbF | apply R_wGo | refine zb8 ?_ | exact zfa | exact ze9 | apply R_for | exact zcI | apply zaN | refine zbG ?_ | refine zc0 ?_ | exact zer | exact zeq | apply zah | apply zbH | apply zbm | apply zb9 | apply zc1 | apply R_ret | apply zbj | apply R_fz) | (((try simp (config := {failIfUnchanged := false}) only [zdh, zcc, zei, zbJ, zaY, zaT, zaE, zbl, zcb, zbE, za2, zbh, za4, zbD, zbc, zbd, zbb, zbC, zbi, zba, za7, za6, za1, za9, zaD, zaV, za8, fzAll, ownAt, dS3, dS10, Mine.R.ds, Mine.R.fz, Mine.D.truth, List.map_cons, List.map_nil, List.getElem?_cons_zero, List.getElem?_cons_succ, List.getElem?_nil, Option.map_some, Option.map_none, List.set_cons_zero, List.set_cons_succ, eq_str, ne_str, zbS, zcw, List.cons.injEq, and_true, and_false, true_and, false_and, Nat.reduceEqDiff, decide_true, decide_false, reduceCtorEq, Bool.not_true, Bool.not_false, Nat.reduceAdd, List.isEmpty_cons, List.isEmpty_nil, Nat.reduceLeDiff, Nat.zero_le, Option.isSome_some, Option.isSome_none, zbY, List.all_cons, List.all_nil, zaL, zaM, zbe, zbU, Bool.and_true, Bool.true_and, cut, List.drop_succ_cons, List.drop_zero, List.take_succ_cons, List.take_zero, Nat.reduceSub, firstAt, reduceIte, List.mem_cons, List.not_mem_nil, or_false, false_or, or_true, true_or, itemsOf, Option.bind_some, o_len, o_sub, o_neg, zcz, zds, zdr, zdp, zdo, zcy, zeT, zeS, o_sl1, zdu, zdt, zdq, zcB, zcA, List.nil_append, List.cons_append, List.length_cons, List.length_nil, Int.reduceSub, Int.reduceNeg, Int.reduceToNat, Int.toNat_zero, Int.toNat_one, Int.reduceAdd, Int.cast_ofNat_Int, Int.natCast_one, Int.natCast_zero, Int.zero_add, Nat.zero_add, List.eraseIdx_cons_succ, List.eraseIdx_cons_zero, Nat.reduceLT, compGo, zct, repX, *]) <;> rfl)) | (show (_ : Nat) < lim; decide) | decide))
  case h2 =>
    refine ⟨_, _, _, _, _, _, rfl, ?_, ?_, ?_, ?_, ?_, ?_⟩ <;> first | exact zaL | exact zaM | assumption
theorem ziU (H : Fx0 pat I n (91 :: 91 :: 93 :: v)) (hr : r.length < lim) (S : TState4 pat n q r (I 0) ρ) : ∃ ρ', ex cf tBody4 ρ = some (ρ', .next) ∧ TState4 pat n q (r ++ [.str [91, 92, 91, 93]]) (I 3) ρ' := by
  obtain ⟨hi, hl, hg, hs, ha1⟩ := H
  obtain ⟨j7, j8, j9, j10, j11, j12, rfl, h7, h8, h9, h10, h11, h12⟩ := S
  refine ⟨?w, ?h1, ?h2⟩
  case h1 =>
    unfold tBody4 s_translate4
    (repeat' (first | with_reducible (first | exact zao | exact R_brk | apply R_seq | exact zbv | exact zbA | exact zam | refine zaf ?_ | apply R_ite | refine R_tt ?_ | refine R_ff ?_ | apply zb7 | apply zaG | exact zbF | apply R_wGo | refine zb8 ?_ | exact zfa | exact ze9 | apply R_for | exact zcI | apply zaN | refine zbG ?_ | refine zc0 ?_ | exact zer | exact zeq | apply zah | apply zbH | apply zbm | apply zb9 | apply zc1 | apply R_ret | apply zbj | apply R_fz) | (((try simp (config := {failIfUnchanged := false}) only [zdh, zcc, zei, zbJ, zaY, zaT, zaE, zbl, zcb, zbE, za2, zbh, za4, zbD, zbc, zbd, zbb, zbC, zbi, zba, za7, za6, za1, za9, zaD, zaV, za8, fzAll, ownAt, dS3, dS10, Mine.R.ds, Mine.R.fz, Mine.D.truth, List.map_cons, List.map_nil, List.getElem?_cons_zero, List.getElem?_cons_succ, List.getElem?_nil, Option.map_some, Option.map_none, List.set_cons_zero, List.set_cons_succ, eq_str, ne_str, zbS, zcw, List.cons.injEq, and_true, and_false, true_and, false_and, Nat.reduceEqDiff, decide_true, decide_false, reduceCtorEq, Bool.not_true, Bool.not_false, Nat.reduceAdd, List.isEmpty_cons, List.isEmpty_nil, Nat.reduceLeDiff, Nat.zero_le, Option.isSome_some, Option.isSome_none, zbY, List.all_cons, List.all_nil, zaL, zaM, zbe, zbU, Bool.and_true, Bool.true_and, cut, List.drop_succ_cons, List.drop_zero, List.take_succ_cons, List.take_zero, Nat.reduceSub, firstAt, reduceIte, List.mem_cons, List.not_mem_nil, or_false, false_or, or_true, true_or, itemsOf, Option.bind_some, o_len, o_sub, o_neg, zcz, zds, zdr, zdp, zdo, zcy, zeT, zeS, o_sl1, zdu, zdt, zdq, zcB, zcA, List.nil_append, List.cons_append, List.length_cons, List.length_nil, Int.reduceSub, Int.reduceNeg, Int.reduceToNat, Int.toNat_zero, Int.toNat_one, Int.reduceAdd, Int.cast_ofNat_Int, Int.natCast_one, Int.natCast_zero, Int.zero_add, Nat.zero_add, List.eraseIdx_cons_succ, List.eraseIdx_cons_zero, Nat.reduceLT, compGo, zct, repX, *]) <;> rfl)) | (show (_ : Nat) < lim; decide) | decide))
  case h2 =>
    refine ⟨_, _, _, _, _, _, rfl, ?_, ?_, ?_, ?_, ?_, ?_⟩ <;> first | exact zaL | exact zaM | assumption
end
set_option genInjectivity false in
structure TurnOK4 (q : D) (u : List Nat) (k : Nat) (r r' : List D) : Prop where
  pos : 1 ≤ k
  le : k ≤ u.length
  run : ∀ cf pat I n ρ, EscOK cf → Fx0 pat I n u → TState4 pat n q r (I 0) ρ → ∃ ρ', ex cf tBody4 ρ = some (ρ', .next) ∧ TState4 pat n q r' (I k) ρ'
inductive Tr4 (q : D) : List Nat → List D → List D → Prop
  | nil {r : List D} : Tr4 q [] r r
  | step {u : List Nat} {k : Nat} {r r' out : List D} : TurnOK4 q u k r r' → Tr4 q (u.drop k) r' out → Tr4 q u r out
theorem zf3 {cf : CfT} {pat u : List Nat} {p : Nat} {q : D} {r : List D} {ρ : List Slot} (H : At pat p u) (S : TState4 pat (N pat) q r (P p 0) ρ) : evT cf tCond4 ρ = some (u[0]?).isSome := by
  obtain ⟨j7, j8, j9, j10, j11, j12, rfl, hj⟩ := S
  have hl := lt_N H (k := 0)
  generalize P p 0 = i at hl ⊢
  generalize N pat = n at hl ⊢
  unfold tCond4 s_translate4
  simp only [zcc, zaE, zbl, zcb, zbE, za2, zbh, za4, zbD, zbc, zbd, zbb, zbC, zbi, zba, za7, za6, za1, za9, zaD, zaV, za8, List.getElem?_cons_succ, List.getElem?_cons_zero, Option.map_some, List.map_cons, List.map_nil, R.ds, hl, zaT, D.truth]
theorem tr_run4 {cf : CfT} (hE : EscOK cf) {q : D} {pat u : List Nat} {r out : List D} (t : Tr4 q u r out) : ∀ (p fuel : Nat) (ρ : List Slot), u.length ≤ fuel → At pat p u → TState4 pat (N pat) q r (P p 0) ρ →
    ∃ ρ', whileGo (evT cf tCond4) (ex cf tBody4) (fuel + 1) ρ = some (ρ', .next) ∧ TState4 pat (N pat) q out (P pat.length 0) ρ' := by
  induction t with
  | nil =>
    intro p fuel ρ hf H S
    refine ⟨ρ, zaG (t := false) (by rw [zf3 H S]; rfl) zbF, ?_⟩
    have := H.len
    rw [this]
    exact S
  | @step u k r r' out T t ih =>
    intro p fuel ρ hf H S
    have hne : 1 ≤ u.length := Nat.le_trans T.pos T.le
    obtain ⟨ρ1, h1, S1⟩ := T.run cf pat (P p) (N pat) ρ hE H.fx0 S
    obtain ⟨fuel', rfl⟩ : ∃ f, fuel = f + 1 := ⟨fuel - 1, by omega⟩
    obtain ⟨ρ2, h2, S2⟩ := ih (p + k) fuel' ρ1 (by rw [List.length_drop]; have := T.pos; omega) (H.skip T.le) (by rw [P_skip]; exact S1)
    refine ⟨ρ2, zaG (t := true) ?_ (R_wGo h1 (zb8 h2)), S2⟩
    rw [zf3 H S, zgX]
    exact congrArg some (decide_eq_true hne)
theorem zfb {fns : Nat → Option Fn} (h0 : fns 0 = some fn_escape) (h1 : fns 1 = some fn_translate4) {q : D} {u : List Nat} {out : List D} (t : Tr4 q u [] out) (hu : u.length ≤ 99999) (m : Nat) : callF fns (m + 2) 1 [.str u, .tok 0, q] = some (.list out) := by
  refine zcs h1 (ρ := [.val (.str u), .val (.tok 0), .val q, .unset, .unset, .unset, .unset, .unset, .unset, .unset, .unset, .unset, .unset]) rfl ?_
  show ∃ ρ', ex (callF fns (m + 1)) s_translate4 _ = _
  have H : At u 0 u := ⟨rfl, Nat.zero_le _, by omega⟩
  have S : TState4 u (N u) q [] (P 0 0) [.val (.str u), .val (.tok 0), .val q, .own [], .app 3, .val (P 0 0), .val (N u), .unset, .unset, .unset, .unset, .unset, .unset] := ⟨_, _, _, _, _, _, rfl, rfl, rfl, rfl, rfl, rfl, rfl⟩
  obtain ⟨ρ2, h2, S2⟩ := tr_run4 (zkn h0 m) t 0 99999 _ hu H S
  obtain ⟨j7, j8, j9, j10, j11, j12, rfl, hj⟩ := S2
  unfold s_translate4
  have eA : evT (callF fns (m + 1)) (.op .eq (.cons (.var 5) (.cons (.var 6) .nil))) [.val (.str u), .val (.tok 0), .val q, .own out, .app 3, .val (P u.length 0), .val (N u), j7, j8, j9, j10, j11, j12] = some true := by
    have e : opF .eq [P u.length 0, N u] = some (.val (.bool true)) := by
      show some (R.val (.bool (decide (((u.length + 0 : Nat) : Int) = (u.length : Int))))) = _
      rw [decide_eq_true (by simp)]
    generalize P u.length 0 = i at e ⊢
    generalize N u = n at e ⊢
    simp only [zcc, zaE, zbl, zcb, zbE, za2, zbh, za4, zbD, zbc, zbd, zbb, zbC, zbi, zba, za7, za6, za1, za9, zaD, zaV, za8, List.getElem?_cons_succ, List.getElem?_cons_zero, Option.map_some, List.map_cons, List.map_nil, R.ds, e, zaT, D.truth]
  have eR : ∀ i n : D, ev1 (callF fns (m + 1)) (.var 3) [.val (.str u), .val (.tok 0), .val q, .val (.list out), .app 3, .val i, .val n, j7, j8, j9, j10, j11, j12] = some (.list out) := fun i n => by
    simp only [zdh, zaE, zbl, zcb, zbE, za2, zbh, za4, zbD, zbc, zbd, zbb, zbC, zbi, zba, za7, za6, za1, za9, zaD, zaV, za8, List.getElem?_cons_succ, List.getElem?_cons_zero, zbJ, R.fz]
  exact ⟨_, R_seq (zbj (l := []) rfl rfl rfl) (zaf (R_seq (zc1 (l := []) rfl rfl) (zaf (R_seq (zbH (d1 := P 0 0) (d2 := N u) rfl rfl) (zaf (R_seq (zb7 h2) (zaf (R_seq (zlD eA) (zaf (R_seq (R_seq (R_fz (l := out) rfl rfl) (zaf (R_ret (eR _ _)))) zam))))))))))⟩
noncomputable def IsAtom4 (q : D) (t : List Nat) (a : Option D) : Prop := ∀ v r, GoodL r → r.length + 1 < lim → TurnOK4 q (t ++ v) t.length r (pushA r a)
noncomputable def AtomsOK4 (q : D) (as : List (List Nat × Option D)) : Prop := ∀ a ∈ as, IsAtom4 q a.1 a.2 ∧ ∀ d, a.2 = some d → GoodD d ∨ d = .tok 0
theorem zf0 {q : D} {v : List Nat} {out : List D} : ∀ {as : List (List Nat × Option D)} {r : List D}, AtomsOK4 q as → GoodL r → r.length + as.length + 1 < lim → Tr4 q v (outA r as) out → Tr4 q (textA as ++ v) r out
  | [], r, _, _, _, t => t
  | a :: as, r, h, hr, hl, t => by
    obtain ⟨h1, h2⟩ := h a List.mem_cons_self
    have h3 := h1 (textA as ++ v) r hr (by rw [List.length_cons] at hl; omega)
    have e : textA (a :: as) ++ v = a.1 ++ (textA as ++ v) := by unfold textA; rw [List.flatMap_cons, List.append_assoc]
    rw [e]
    refine .step h3 ?_
    rw [List.drop_left' rfl]
    refine zf0 (fun b hb => h b (List.mem_cons_of_mem _ hb)) (zim hr h2) ?_ t
    have := zjn (r := r) (a := a.2)
    rw [List.length_cons] at hl
    omega
theorem zdM {fns : Nat → Option Fn} (h0 : fns 0 = some fn_escape) (h1 : fns 1 = some fn_translate4) {q : D} {as : List (List Nat × Option D)} (h : AtomsOK4 q as) (hl : as.length ≤ 9999) (hu : (textA as).length ≤ 99999) (m : Nat) :
    callF fns (m + 2) 1 [.str (textA as), .tok 0, q] = some (.list (outA [] as)) := by
  refine zfb h0 h1 ?_ hu m
  have := zf0 (v := []) (out := outA [] as) h (fun d hd => nomatch hd) (r := []) (by unfold lim; simp; omega) .nil
  rwa [List.append_nil] at this
theorem zhq {q : D} : IsAtom4 q [42] none := fun v r hr hl => ⟨Nat.le_refl _, by simp, fun cf pat I n ρ hE H S => by
  rcases List.eq_nil_or_concat r with rfl | ⟨r', d, rfl⟩
  · have e : pushA [] none = [.tok 0] := rfl
    rw [e]
    exact zfX H S
  · rw [List.concat_eq_append] at *
    unfold pushA
    simp only [List.getLast?_append, List.getLast?_singleton, Option.some_or, Option.map_some, Option.some.injEq]
    by_cases hd : isTok0 d = true
    · have := zjY hd
      subst this
      rw [if_pos hd]
      exact zfW H S
    · rw [if_neg hd]
      exact zfV ((hr d (by simp)).resolve_right fun e => hd (by rw [e]; rfl)) (by omega) H S⟩
theorem zkD {q : D} {c : Nat} (c1 : ¬ c = 42) (c2 : ¬ c = 63) (c3 : ¬ c = 91) (hc : c < 128) : IsAtom4 q [c] (some (.str (esc c))) := fun v r hr hl => ⟨Nat.le_refl _, by simp, fun cf pat I n ρ hE H S => zgO c1 c2 c3 (hE c hc) (by omega) H S⟩
theorem zkB {q : D} : IsAtom4 q [91, 42, 93] (some (.str [91, 42, 93])) := fun v r hr hl => ⟨by decide, by simp, fun cf pat I n ρ hE H S => ziT H (Nat.lt_of_succ_lt hl) S⟩
theorem zkC {q : D} : IsAtom4 q [91, 91, 93] (some (.str [91, 92, 91, 93])) := fun v r hr hl => ⟨by decide, by simp, fun cf pat I n ρ hE H S => ziU H (Nat.lt_of_succ_lt hl) S⟩
theorem zgd {a : List Nat} {c : Nat} : opF .startswith [.str a, .str [c]] = some (.val (.bool (decide (a.head? = some c)))) := by
  show some (R.val (.bool (Txt.startswith ⟨a.toArray⟩ ⟨[c].toArray⟩))) = _
  rw [zgT]
theorem zdV {a b : List Nat} (h : a.length + b.length ≤ lim) : opF .add [.str a, .str b] = some (.val (.str (a ++ b))) := by
  show (if a.length + b.length ≤ lim then some (R.val (.str (a ++ b))) else none) = _
  rw [if_pos h]
section
variable {fns : Nat → Option Fn}
theorem zee (h2 : fns 2 = some fn_fspath) (m : Nat) (l : List Nat) : callF fns (m + 1) 2 [.str l] = some (.str l) := by
  refine zcs h2 (ρ := [.val (.str l), .unset, .unset, .unset]) rfl ?_
  show ∃ ρ', ex (callF fns m) s_fspath _ = _
  unfold s_fspath
  exact ⟨_, R_seq (zah (d := .ty "str") rfl rfl) (zaf (R_seq (R_ite (t := true) rfl (R_tt (R_seq (R_ret (d := .str l) rfl) zam))) zam))⟩
theorem ziD (h3 : fns 3 = some fn_get_sep) (m : Nat) (l : List Nat) : callF fns (m + 1) 3 [.str l] = some (.str [47]) := by
  refine zcs h3 (ρ := [.val (.str l)]) rfl ?_
  show ∃ ρ', ex (callF fns m) s_get_sep _ = _
  unfold s_get_sep
  exact ⟨_, R_seq (R_ite (t := false) rfl (R_ff (R_seq (R_ret (d := .str [47]) rfl) zam))) zam⟩
end
section
variable {cf : CfT}
end
section
variable {fns : Nat → Option Fn}
end
theorem zaF {n : Nat} (h : n ≤ 1000000) : small (n : Int) = true := by
  unfold small
  simp only [Bool.and_eq_true, decide_eq_true_eq]
  omega
theorem zb5 {k n : Nat} (h : k ≤ n) : clip (k : Int) n = k := by
  unfold clip
  rw [if_neg (by omega)]
  split <;> omega
theorem o_to {x y : List Nat} (h : x.length ≤ 1000000) : opF .slice [.str (x ++ y), .none, .int (x.length : Int)] = some (.val (.str x)) := by
  have e : bound (.int (x.length : Int)) (x ++ y).length (x ++ y).length = some x.length := by
    show (if small (x.length : Int) = true then some (clip (x.length : Int) (x ++ y).length) else none) = _
    rw [if_pos (zaF h), zb5 (by simp)]
  show (match bound .none 0 (x ++ y).length, bound (.int (x.length : Int)) (x ++ y).length (x ++ y).length with
    | some lo, some hi => some (R.val (.str (cut (x ++ y) lo hi)))
    | _, _ => none) = _
  rw [e]
  show some (R.val (.str (cut (x ++ y) 0 x.length))) = _
  congr 3
  unfold cut
  simp
theorem zkU {n : Nat} {c : Nat} : rep [c] (n : Int) = List.replicate n c := by
  unfold rep
  rw [Int.toNat_natCast]
  induction n with
  | zero => rfl
  | succ n ih => rw [List.replicate_succ, List.flatten_cons, ih]; rfl
theorem zk6 {c n : Nat} (h : n ≤ lim) : opF .mul [.str [c], .int (n : Int)] = some (.val (.str (List.replicate n c))) := by
  show (if (small (n : Int) && decide (([c] : List Nat).length * (n : Int).toNat ≤ lim)) = true then some (R.val (.str (rep [c] (n : Int)))) else none) = _
  rw [if_pos, zkU]
  rw [Bool.and_eq_true, decide_eq_true_eq, Int.toNat_natCast]
  exact ⟨zaF h, by simpa using h⟩
theorem zft {a : List Nat} {c : Nat} : opF .rstrip [.str a, .str [c]] = some (.val (.str (a.reverse.dropWhile fun x => x == c).reverse)) := by
  show some (R.val (.str (Txt.rstripChars ⟨a.toArray⟩ ⟨[c].toArray⟩).cps.toList)) = _
  rw [rstrip1]
theorem ziq {a : List Nat} {c : Nat} (h : c ∉ a) : opF .rfind [.str a, .str [c]] = some (.val (.int (-1))) := by
  show some (R.val (.int (Txt.rfind ⟨a.toArray⟩ ⟨[c].toArray⟩))) = _
  rw [zkS h]
theorem zir {x y : List Nat} {c : Nat} (h : c ∉ y) : opF .rfind [.str (x ++ c :: y), .str [c]] = some (.val (.int (x.length : Int))) := by
  show some (R.val (.int (Txt.rfind ⟨(x ++ c :: y).toArray⟩ ⟨[c].toArray⟩))) = _
  rw [zkT h]
noncomputable def strip0 (x : List Nat) : List Nat := if x = List.replicate x.length 47 then x else (x.reverse.dropWhile fun c => c == 47).reverse
section
variable {fns : Nat → Option Fn}
end
theorem o_mod {n k : Nat} (hk : k ≠ 0) : opF .mod [.int (n : Int), .int (k : Int)] = some (.val (.int ((n % k : Nat) : Int))) := by
  show (if (k : Int) = 0 then none else some (R.val (.int (Int.fmod (n : Int) (k : Int))))) = _
  rw [if_neg (by omega), Int.fmod_eq_emod_of_nonneg _ (by omega)]
  rfl
theorem o_div {n k : Nat} (hk : k ≠ 0) : opF .fdiv [.int (n : Int), .int (k : Int)] = some (.val (.int ((n / k : Nat) : Int))) := by
  show (if (k : Int) = 0 then none else some (R.val (.int (Int.fdiv (n : Int) (k : Int))))) = _
  rw [if_neg (by omega), Int.fdiv_eq_ediv_of_nonneg _ (by omega)]
  rfl
theorem o_gt0 {n : Nat} : opF .gt [.int (n : Int), .int 0] = some (.val (.bool (decide (0 < n)))) := by
  show some (R.val (.bool (decide ((0 : Int) < (n : Int))))) = _
  congr 4
  simp only [eq_iff_iff]
  omega
theorem zfr {l : List D} {k : Nat} {d : D} (h : l[k]? = some d) (hk : k ≤ 1000000) : opF .index [.tup l, .int (k : Int)] = some (.val d) := by
  show (if small (k : Int) = true then (match place (k : Int) l.length with | some k => (l[k]?).map R.val | none => none) else none) = _
  rw [if_pos (zaF hk)]
  unfold place
  have : k < l.length := (List.getElem?_eq_some_iff.mp h).1
  rw [if_pos (by omega), if_pos (by omega)]
  simp only [Int.toNat_natCast, h, Option.map_some]
theorem zcj {l : List D} {k : Nat} {d : D} (h : l[k]? = some d) (hk : k ≤ 1000000) : opF .index [.list l, .int (k : Int)] = some (.val d) := by
  show (if small (k : Int) = true then (match place (k : Int) l.length with | some k => (l[k]?).map R.val | none => none) else none) = _
  rw [if_pos (zaF hk)]
  unfold place
  have : k < l.length := (List.getElem?_eq_some_iff.mp h).1
  rw [if_pos (by omega), if_pos (by omega)]
  simp only [Int.toNat_natCast, h, Option.map_some]
theorem zef {cf : CfT} {i : Nat} {b : S} {I : Nat → List Slot → Prop} {a : Nat} : ∀ {m : Nat} {ρ : List Slot}, I a ρ → (∀ k ρ, a ≤ k → k < a + m → I k ρ → ∃ ρ' o, ex cf b (ρ.set i (.val (.int (k : Int)))) = some (ρ', o) ∧ (o = .next ∨ o = .cont) ∧ I (k + 1) ρ') →
    ∃ ρ', forGo (put1 i) (ex cf b) ((List.range' a m).map fun (k : Nat) => .int (k : Int)) ρ = some (ρ', .next) ∧ I (a + m) ρ' := by
  intro m
  induction m generalizing a with
  | zero => intro ρ h0 _; exact ⟨ρ, rfl, h0⟩
  | succ m ih =>
    intro ρ h0 hs
    obtain ⟨ρ1, o, e1, ho, h1⟩ := hs a ρ (Nat.le_refl _) (by omega) h0
    obtain ⟨ρ2, e2, h2⟩ := ih (a := a + 1) h1 fun k ρ hk1 hk2 hI => hs k ρ (by omega) (by omega) hI
    refine ⟨ρ2, ?_, by rw [show a + (m + 1) = a + 1 + m by omega]; exact h2⟩
    rw [List.range'_succ, List.map_cons]
    refine zaN (st := put1 i) rfl e1 ?_
    rcases ho with rfl | rfl
    · exact zbG e2
    · exact zc0 e2
theorem ziR {n a : Nat} : (upTo n (a : Int) 1).map D.int = (List.range' a n).map fun (k : Nat) => .int (k : Int) := by
  unfold upTo
  rw [List.map_map, List.range'_eq_map_range, List.map_map]
  apply List.map_congr_left
  intro k _
  simp
theorem zjl {n : Nat} (h : n ≤ 1000000) : opRange [.int (n : Int)] = some ((List.range' 0 n).map fun (k : Nat) => .int (k : Int)) := by
  show (if (small (n : Int) && decide ((n : Int) ≤ 1000000)) = true then some (rangeL 0 (n : Int)) else none) = _
  rw [if_pos (by rw [zaF h]; exact decide_eq_true (Int.ofNat_le.mpr h))]
  unfold rangeL
  have : ((n : Int) - 0).toNat = n := by rw [Int.sub_zero]; rfl
  rw [this]
  exact congrArg some (ziR (a := 0))
theorem zd2 {a n : Nat} (ha : a ≤ 1000000) (h : n ≤ 1000000) : opRange [.int (a : Int), .int (n : Int)] = some ((List.range' a (n - a)).map fun (k : Nat) => .int (k : Int)) := by
  show (if (small (a : Int) && small (n : Int) && decide ((n : Int) - (a : Int) ≤ 1000000)) = true then some (rangeL (a : Int) (n : Int)) else none) = _
  rw [if_pos (by rw [zaF h, zaF ha]; exact decide_eq_true (Int.le_trans (Int.sub_le_self _ (Int.natCast_nonneg a)) (Int.ofNat_le.mpr h)))]
  unfold rangeL
  have : ((n : Int) - (a : Int)).toNat = n - a := Int.toNat_sub n a
  rw [this]
  exact congrArg some ziR
theorem zgc {t : List Nat} {c : Nat} : opF .index [.str (t ++ [c]), .int (-1)] = some (.val (.str [c])) := by
  show (if small (-1) = true then (match place (-1) (t ++ [c]).length with | some k => ((t ++ [c])[k]?).map (fun c => R.val (.str [c])) | none => none) else none) = _
  rw [if_pos (by decide)]
  unfold place
  rw [if_neg (by decide), if_pos (by simp; omega)]
  have e : (-1 + ((t ++ [c]).length : Int)).toNat = t.length := by simp; omega
  simp only [e]
  simp
theorem o_takeN {l : List D} {n : Nat} (h : n ≤ 1000000) (hl : n ≤ l.length) : opF .slice [.list l, .none, .int (n : Int)] = some (.own (l.take n)) := by
  have e : bound (.int (n : Int)) l.length l.length = some (clip (n : Int) l.length) := by
    show (if small (n : Int) = true then some (clip (n : Int) l.length) else none) = _
    rw [if_pos (zaF h)]
  show (match bound .none 0 l.length, bound (.int (n : Int)) l.length l.length with
    | some lo, some hi => some (R.own (cut l lo hi))
    | _, _ => none) = _
  rw [e]
  show some (R.own (cut l 0 (clip (n : Int) l.length))) = _
  rw [zb5 hl]; rfl
theorem zlx {cf : CfT} {i : Nat} {it c e : X} {ρ : List Slot} {items l : List D} (h : ev cf it ρ = some [.val (.list items)]) (hg : compGo (fun d => turnD (ev cf c (ρ.set i (.val d))) (ev cf e (ρ.set i (.val d)))) items = some l) :
    ev cf (.comp i it c e) ρ = some [.own l] := by
  rw [zba]
  simp only [h, hg, Option.map_some]
theorem zhi {cf : CfT} {i : Nat} {b : S} {I : List Slot → Prop} : ∀ {l : List D} {ρ : List Slot}, I ρ → (∀ d ∈ l, ∀ ρ, I ρ → ∃ ρ', ex cf b (ρ.set i (.val d)) = some (ρ', .next) ∧ I ρ') →
    ∃ ρ', forGo (put1 i) (ex cf b) l ρ = some (ρ', .next) ∧ I ρ'
  | [], ρ, h, _ => ⟨ρ, rfl, h⟩
  | d :: l, ρ, h, hs => by
    obtain ⟨ρ1, e1, h1⟩ := hs d List.mem_cons_self ρ h
    obtain ⟨ρ2, e2, h2⟩ := zhi (l := l) h1 fun d hd => hs d (List.mem_cons_of_mem _ hd)
    exact ⟨ρ2, zaN (st := put1 i) rfl e1 (zbG e2), h2⟩
theorem zkW {α β : Type} (f : α → β) (l : List α) (lo hi st : Option Int) : pick (l.map f) lo hi st = (pick l lo hi st).map f := by
  unfold pick
  rw [List.length_map, List.map_filterMap]
  congr 1
  funext k
  rw [List.getElem?_map]
theorem zeJ : ∀ l : List Int, toInts (l.map D.int) = some l
  | [] => rfl
  | i :: l => by
    rw [List.map_cons]
    unfold toInts
    rw [zeJ l]; rfl
theorem o_sumi {l : List Int} : opF .sum [.list (l.map .int)] = some (.val (.int l.sum)) := by
  show (toInts (l.map D.int)).map (fun is => R.val (.int is.sum)) = _
  rw [zeJ]; rfl
theorem o_absi {i : Int} : opF .abs [.int i] = some (.val (.int (i.natAbs : Int))) := rfl
theorem zk4 {ns : List Int} {k n : Nat} (hk : k ≤ 1000000) (hn : n ≤ 1000000) (h0 : n ≠ 0) : opF .slice3 [.list (ns.map .int), .int (k : Int), .none, .int (n : Int)] = some (.own ((pick ns (some (k : Int)) none (some (n : Int))).map .int)) := by
  have e : partD (.int (k : Int)) = some (some (k : Int)) := by
    show (if small (k : Int) = true then some (some (k : Int)) else none) = _
    rw [if_pos (zaF hk)]
  show (match partD (.int (k : Int)), partD .none with
    | some lo, some hi => if (n : Int) ≠ 0 ∧ small (n : Int) then some (R.own (pick (ns.map D.int) lo hi (some (n : Int)))) else none
    | _, _ => none) = _
  rw [e]
  show (if (n : Int) ≠ 0 ∧ small (n : Int) then some (R.own (pick (ns.map D.int) (some (k : Int)) none (some (n : Int)))) else none) = _
  rw [if_pos ⟨by omega, zaF hn⟩, zkW]
section
variable {cf : CfT} {ρ : List Slot} {a b c : R}
theorem zaq {x xs : X} {rs : List R} (h1 : ev cf x ρ = some [a]) (h2 : ev cf xs ρ = some rs) : ev cf (.cons x xs) ρ = some (a :: rs) := by rw [za2, h1, h2]; rfl
theorem V_op {f : Op} {xs : X} {rs : List R} {r : R} (h1 : ev cf xs ρ = some rs) (h : opF f (rs.map R.ds) = some r) : ev cf (.op f xs) ρ = some [r] := by rw [zcb, h1]; simp only [h]; rfl
theorem V_op1 {f : Op} {x : X} {r : R} (h1 : ev cf x ρ = some [a]) (h : opF f [a.ds] = some r) : ev cf (.op f (.cons x .nil)) ρ = some [r] := V_op (zaq h1 rfl) h
theorem V_op2 {f : Op} {x y : X} {r : R} (h1 : ev cf x ρ = some [a]) (h2 : ev cf y ρ = some [b]) (h : opF f [a.ds, b.ds] = some r) : ev cf (.op f (.cons x (.cons y .nil))) ρ = some [r] := V_op (zaq h1 (zaq h2 rfl)) h
theorem V_op3 {f : Op} {x y z : X} {r : R} (h1 : ev cf x ρ = some [a]) (h2 : ev cf y ρ = some [b]) (h3 : ev cf z ρ = some [c]) (h : opF f [a.ds, b.ds, c.ds] = some r) : ev cf (.op f (.cons x (.cons y (.cons z .nil)))) ρ = some [r] := V_op (zaq h1 (zaq h2 (zaq h3 rfl))) h
theorem zbV {f : Nat} {xs : X} {rs : List R} {ds : List D} {d : D} (h1 : ev cf xs ρ = some rs) (h2 : fzAll rs = some ds) (h : cf f ds = some d) : ev cf (.call f xs) ρ = some [.val d] := by rw [zbb, h1]; simp only [h2, h]; rfl
theorem zh8 {x y : X} (h1 : ev cf x ρ = some [.val (.bool false)]) : ev cf (.and x y) ρ = some [.val (.bool false)] := by rw [za4, h1]; rfl
theorem zlC {x y : X} (h1 : ev cf x ρ = some [.val (.bool true)]) (h2 : ev cf y ρ = some [a]) : ev cf (.and x y) ρ = some [a] := by rw [za4, h1]; exact h2
theorem V_and {x y : X} {p q : Bool} (h1 : ev cf x ρ = some [.val (.bool p)]) (h2 : p = true → ev cf y ρ = some [.val (.bool q)]) : ev cf (.and x y) ρ = some [.val (.bool (p && q))] := by
  cases p
  · exact zh8 h1
  · exact zlC h1 (h2 rfl)
theorem zlA {x y z : X} (h1 : ev cf x ρ = some [.val (.bool true)]) (h2 : ev cf y ρ = some [a]) : ev cf (.ite x y z) ρ = some [a] := by rw [zbd, h1]; exact h2
theorem zlB {x y z : X} (h1 : ev cf x ρ = some [.val (.bool false)]) (h2 : ev cf z ρ = some [a]) : ev cf (.ite x y z) ρ = some [a] := by rw [zbd, h1]; exact h2
theorem zcO {x : X} {d : D} {l : List D} (h1 : ev cf x ρ = some [a]) (h2 : a.fz = some d) (h3 : itemsOf d = some l) : ev cf (.seqI x) ρ = some [.val (.list l)] := by rw [za9, h1]; simp only [h2, h3]; rfl
theorem zb6 {xs : X} {rs : List R} {l : List D} (h1 : ev cf xs ρ = some rs) (h : opRange (rs.map R.ds) = some l) : ev cf (.rangeI xs) ρ = some [.val (.list l)] := by rw [zaD, h1]; simp only [h]; rfl
theorem E_of {x : X} {d : D} (h : ev cf x ρ = some [a]) (h2 : a.fz = some d) : ev1 cf x ρ = some d := by rw [zdh, h]; exact h2
theorem T_of {x : X} {t : Bool} (h : ev cf x ρ = some [.val (.bool t)]) : evT cf x ρ = some t := by rw [zcc, h]; rfl
theorem I_of {x : X} {l : List D} (h : ev cf x ρ = some [.val (.list l)]) : evI cf x ρ = some l := by rw [zei, h]; rfl
theorem V_v {ρ : List Slot} {i : Nat} {s : Slot} {d : D} (e : ρ[i]? = some s) (h : s = .val d) : ev cf (.var i) ρ = some [.val d] := by rw [zbl, e, h]
theorem V_or {x y : X} {p q : Bool} (h1 : ev cf x ρ = some [.val (.bool p)]) (h2 : ev cf y ρ = some [.val (.bool q)]) : ev cf (.or x y) ρ = some [.val (.bool (p || q))] := by
  rw [zbD, h1]
  cases p
  · exact h2
  · rfl
theorem V_not {x : X} {p : Bool} (h1 : ev cf x ρ = some [.val (.bool p)]) : ev cf (.not x) ρ = some [.val (.bool (!p))] := by
  rw [zbc, h1]; rfl
end
section
variable {cf : CfT} {ρ : List Slot} {a b c : R}
theorem zb4 {α : Type} {f : D → Option (Option D)} {g v : α → D} {p : α → Bool} : ∀ {l : List α}, (∀ a ∈ l, f (g a) = some (if p a then some (v a) else none)) → compGo f (l.map g) = some ((l.filter p).map v)
  | [], _ => rfl
  | a :: l, h => by
    rw [List.map_cons]
    unfold compGo
    rw [h a List.mem_cons_self, zb4 fun b hb => h b (List.mem_cons_of_mem _ hb)]
    cases e : p a
    · rw [List.filter_cons_of_neg (by rw [e]; exact Bool.false_ne_true)]; rfl
    · rw [List.filter_cons_of_pos e]; rfl
theorem zcQ {p : Bool} {x : Option (List R)} {y : Option (List R)} {d : D} {r : R} (h1 : x = some [.val (.bool p)]) (h2 : p = true → y = some [r]) (h3 : r.fz = some d) : turnD x y = some (if p then some d else none) := by
  rw [h1]
  cases p
  · rfl
  · rw [h2 rfl]
    show r.fz.map some = _
    rw [h3]; rfl
theorem zep {α : Type} {i : Nat} {it cd e : X} {l : List α} {g v : α → D} {p : α → Bool} (h : ev cf it ρ = some [.val (.list (l.map g))])
    (hg : ∀ a ∈ l, turnD (ev cf cd (ρ.set i (.val (g a)))) (ev cf e (ρ.set i (.val (g a)))) = some (if p a then some (v a) else none)) : ev cf (.comp i it cd e) ρ = some [.own ((l.filter p).map v)] :=
  zlx h (zb4 hg)
end
theorem ze6 {α β : Type} {l : List α} {f g : α → β} (h : l.map f = l.map g) {a : α} (ha : a ∈ l) : f a = g a := List.map_inj_left.mp h a ha
noncomputable def upd (f : Nat → Slot) (i : Nat) (v : Slot) : Nat → Slot := fun k => if k = i then v else f k
inductive LV (l : List D) : Slot → Prop
  | own : LV l (.own l)
  | val : LV l (.val (.list l))
noncomputable def NA (f : Nat → Slot) : Prop := ∀ i k, appOK k (f i) = true
theorem NA.upd {f : Nat → Slot} (h : NA f) {i : Nat} {v : Slot} (hv : ∀ k, appOK k v = true) : NA (upd f i v) := by
  intro j k
  unfold Mine.upd
  split
  · exact hv k
  · exact h j k
section
variable {cf : CfT} {f : Nat → Slot}
theorem zfS {ρ : List Slot} {α : Type} {i : Nat} {it e : X} {l : List α} {g v : α → D} (h : ev cf it ρ = some [.val (.list (l.map g))])
    (hg : ∀ a ∈ l, ∃ r, ev cf e (ρ.set i (.val (g a))) = some [r] ∧ r.fz = some (v a)) : ev cf (.comp i it (.const (.bool true)) e) ρ = some [.own (l.map v)] := by
  have := zep (cf := cf) (i := i) (cd := .const (.bool true)) (e := e) (p := fun _ => true) (v := v) h fun a ha => by
    obtain ⟨r, h1, h2⟩ := hg a ha
    exact zcQ (p := true) (d := v a) rfl (fun _ => h1) h2
  rw [List.filter_eq_self.mpr fun _ _ => rfl] at this
  exact this
end
noncomputable def nI (i : Nat) : D := .int (i : Int)
theorem at_map {α : Type} {β : Type} {g : α → β} {l : List α} {i : Nat} (h : i < l.length) (d : α) : (l.map g)[i]? = some (g (l.getD i d)) := by
  rw [List.getElem?_map, List.getD_eq_getElem?_getD, List.getElem?_eq_getElem h]; rfl
theorem zfG {α : Type} {l : List α} {i : Nat} (h : i < l.length) (d : α) : l.getD i d ∈ l := by
  rw [List.getD_eq_getElem?_getD, List.getElem?_eq_getElem h]; exact List.getElem_mem _
theorem zbX {n : Nat} (h : n ≤ 1000000) : opRange [nI n] = some ((List.range' 0 n).map nI) := zjl h
theorem zlK {α : Type} {g : α → D} {l : List α} : opF .len [.list (l.map g)] = some (.val (nI l.length)) := by
  show some (R.val (.int ((l.map g).length : Int))) = _
  rw [List.length_map]; rfl
theorem zlM {a b : Nat} : opF .add [.int (a : Int), .int (b : Int)] = some (.val (.int ((a + b : Nat) : Int))) := by
  show some (R.val (.int ((a : Int) + (b : Int)))) = _
  congr 3
theorem zjt {α : Type} {f : α → D} {k : Nat} (h : ∀ a, (f a).ok k = true) : ∀ l : List α, D.oks k (l.map f) = true
  | [] => rfl
  | a :: l => by
    rw [List.map_cons]
    unfold D.oks
    rw [h a, zjt h l]; rfl
theorem zkE {α : Type} {f : α → D} {y : D} {P : α → Bool} (h : ∀ a, PyData.eqv (f a).toPy y.toPy = P a) : ∀ l : List α, ((D.toPys (l.map f)).any fun x => PyData.eqv x y.toPy) = l.any P
  | [] => rfl
  | a :: l => by
    rw [List.map_cons]
    unfold D.toPys
    rw [List.any_cons, h a, zkE h l]; rfl
theorem in_map {α : Type} {f : α → D} {y : D} {P : α → Bool} {l : List α} (ho : ∀ a, (f a).ok 8 = true) (hy : y.ok 9 = true) (h : ∀ a, PyData.eqv (f a).toPy y.toPy = P a) : inD y (.list (l.map f)) = some (l.any P) := by
  show (if (D.oks 8 (l.map f) && y.ok 9) = true then some ((D.toPys (l.map f)).any fun x => PyData.eqv x y.toPy) else none) = _
  rw [zjt ho, hy, zkE h]; rfl
theorem tupn_at {l : List Nat} {k : Nat} (h : k < l.length) (hk : k ≤ 1000000) : opF .index [.tup (l.map fun (n : Nat) => .int (n : Int)), .int (k : Int)] = some (.val (.int (l.getD k 0 : Int))) := by
  refine zfr ?_ hk
  rw [List.getElem?_map, List.getD_eq_getElem?_getD, List.getElem?_eq_getElem h]; rfl
theorem eqv_int {a b : Int} : PyData.eqv (D.int a).toPy (D.int b).toPy = decide (a = b) := by
  unfold D.toPy
  simp [PyData.eqv]
  rfl
theorem zhh {l : List Nat} {n : Nat} : opF .in_ [nI n, .list (l.map nI)] = some (.val (.bool (decide (n ∈ l)))) := by
  show (inD (nI n) (.list (l.map nI))).map (fun x => R.val (.bool x)) = _
  rw [in_map (f := nI) (y := nI n) (P := fun (a : Nat) => decide ((a : Int) = (n : Int))) (fun _ => rfl) rfl fun a => eqv_int]
  have : (l.any fun (a : Nat) => decide ((a : Int) = (n : Int))) = decide (n ∈ l) := by
    rw [Bool.eq_iff_iff, List.any_eq_true, decide_eq_true_eq]
    exact ⟨fun ⟨a, h, e⟩ => Int.ofNat.inj (of_decide_eq_true e) ▸ h, fun h => ⟨n, h, decide_eq_true rfl⟩⟩
  rw [this]; rfl
noncomputable def sg4 : List Nat := [42, 47, 91, 97, 98]
noncomputable def aT (k : Nat) : List Nat := [[97], [98], [47], [91, 42, 93], [91, 91, 93], [42]].getD k []
noncomputable def aP (k : Nat) : D := [.str [97], .str [98], .str [47], .str [91, 42, 93], .str [91, 92, 91, 93], .tok 0].getD k .none
noncomputable def aC (k : Nat) : List Nat := [[97], [98], [47], [42], [91], []].getD k []
inductive Mt : List Nat → List Nat → Prop
  | nil : Mt [] []
  | star {as u v : List Nat} : Mt as v → Mt (5 :: as) (u ++ v)
  | one {k c : Nat} {as v : List Nat} : k ≠ 5 → c ∈ aC k → Mt as v → Mt (k :: as) (c :: v)
theorem Mt.nil_iff {u : List Nat} : Mt [] u ↔ u = [] := ⟨fun h => by cases h; rfl, fun h => h ▸ .nil⟩
theorem Mt.star_iff {as w : List Nat} : Mt (5 :: as) w ↔ ∃ u v, w = u ++ v ∧ Mt as v :=
  ⟨fun h => by cases h with
    | star h => exact ⟨_, _, rfl, h⟩
    | one h => exact absurd rfl h, fun ⟨u, v, e, h⟩ => e ▸ .star h⟩
theorem Mt.one_iff {k : Nat} {as w : List Nat} (hk : k ≠ 5) : Mt (k :: as) w ↔ ∃ c v, w = c :: v ∧ c ∈ aC k ∧ Mt as v :=
  ⟨fun h => by cases h with
    | star h => exact absurd rfl hk
    | one _ h1 h2 => exact ⟨_, _, rfl, h1, h2⟩, fun ⟨c, v, e, h1, h2⟩ => e ▸ .one hk h1 h2⟩
theorem Mt.app : ∀ {as bs w : List Nat}, Mt (as ++ bs) w ↔ ∃ u v, w = u ++ v ∧ Mt as u ∧ Mt bs v
  | [], bs, w => ⟨fun h => ⟨[], w, rfl, .nil, h⟩, fun ⟨u, v, e, h1, h2⟩ => by cases h1; exact e ▸ h2⟩
  | k :: as, bs, w => by
    by_cases hk : k = 5
    · subst hk
      rw [List.cons_append, Mt.star_iff]
      constructor
      · rintro ⟨u, v, rfl, h⟩
        obtain ⟨x, y, rfl, h1, h2⟩ := Mt.app.mp h
        exact ⟨u ++ x, y, (List.append_assoc ..).symm, .star h1, h2⟩
      · rintro ⟨u, v, rfl, h1, h2⟩
        obtain ⟨x, y, rfl, h⟩ := Mt.star_iff.mp h1
        exact ⟨x, y ++ v, List.append_assoc .., Mt.app.mpr ⟨y, v, rfl, h, h2⟩⟩
    · rw [List.cons_append, Mt.one_iff hk]
      constructor
      · rintro ⟨c, v, rfl, hc, h⟩
        obtain ⟨x, y, rfl, h1, h2⟩ := Mt.app.mp h
        exact ⟨c :: x, y, rfl, .one hk hc h1, h2⟩
      · rintro ⟨u, v, rfl, h1, h2⟩
        obtain ⟨c, y, rfl, hc, h⟩ := (Mt.one_iff hk).mp h1
        exact ⟨c, y ++ v, rfl, hc, Mt.app.mpr ⟨y, v, rfl, h, h2⟩⟩
noncomputable def mv (w : List Nat) (at_ : List Nat) (k : Nat) : List Nat :=
  if k = 5 then (match at_ with | [] => [] | p :: _ => List.range' p (w.length + 1 - p))
  else (at_.filter fun p => decide (p < w.length) && decide (w.getD p 0 ∈ aC k)).map (· + 1)
theorem mv_star {w : List Nat} {p : Nat} {r : List Nat} : mv w (p :: r) 5 = List.range' p (w.length + 1 - p) := rfl
theorem zjJ {w at_ : List Nat} {k : Nat} (hk : k ≠ 5) : mv w at_ k = (at_.filter fun p => decide (p < w.length) && decide (w.getD p 0 ∈ aC k)).map (· + 1) := if_neg hk
set_option genInjectivity false in
structure Pl (w at_ : List Nat) : Prop where
  so : at_.Pairwise (· < ·)
  le : ∀ p ∈ at_, p ≤ w.length
theorem zhO {p l q : Nat} (h : p ≤ l) : q ∈ List.range' p (l + 1 - p) ↔ p ≤ q ∧ q ≤ l := by
  rw [List.mem_range'_1, Nat.add_sub_cancel' (Nat.le_succ_of_le h), Nat.lt_succ_iff]
theorem mv_pl {w at_ : List Nat} {k : Nat} (P : Pl w at_) : Pl w (mv w at_ k) := by
  by_cases hk : k = 5
  · subst hk
    cases at_ with
    | nil => exact P
    | cons p r => exact ⟨List.pairwise_lt_range', fun q h => ((zhO (P.le p List.mem_cons_self)).mp h).2⟩
  · rw [zjJ hk]
    refine ⟨List.pairwise_map.mpr ((P.so.sublist List.filter_sublist).imp fun h => Nat.succ_lt_succ h), fun q h => ?_⟩
    obtain ⟨p, hp, rfl⟩ := List.mem_map.mp h
    have := (List.mem_filter.mp hp).2
    rw [Bool.and_eq_true] at this
    exact of_decide_eq_true this.1
theorem zjK {w : List Nat} {p k : Nat} {as : List Nat} (hk : k ≠ 5) : Mt (k :: as) (w.drop p) ↔ (p < w.length ∧ w.getD p 0 ∈ aC k) ∧ Mt as (w.drop (p + 1)) := by
  rw [Mt.one_iff hk]
  by_cases h : p < w.length
  · rw [List.drop_eq_getElem_cons h, List.getD_eq_getElem?_getD, List.getElem?_eq_getElem h]
    exact ⟨fun ⟨c, v, e, h1, h2⟩ => (by cases e; exact ⟨⟨h, h1⟩, h2⟩), fun ⟨h1, h2⟩ => ⟨_, _, rfl, h1.2, h2⟩⟩
  · rw [List.drop_eq_nil_of_le (Nat.not_lt.mp h)]
    exact ⟨fun ⟨c, v, e, _⟩ => (nomatch e), fun ⟨h1, _⟩ => absurd h1.1 h⟩
theorem zlO {w : List Nat} : ∀ {as at_ : List Nat}, Pl w at_ → (w.length ∈ as.foldl (mv w) at_ ↔ ∃ p ∈ at_, Mt as (w.drop p))
  | [], at_, P => by
    simp only [List.foldl_nil, Mt.nil_iff, List.drop_eq_nil_iff]
    exact ⟨fun h => ⟨_, h, Nat.le_refl _⟩, fun ⟨p, h, e⟩ => Nat.le_antisymm (P.le p h) e ▸ h⟩
  | k :: as, at_, P => by
    rw [List.foldl_cons, zlO (mv_pl P)]
    by_cases hk : k = 5
    · subst hk
      cases at_ with
      | nil => exact ⟨fun ⟨_, h, _⟩ => (nomatch h), fun ⟨_, h, _⟩ => nomatch h⟩
      | cons p r =>
        simp only [mv_star, zhO (P.le p List.mem_cons_self)]
        constructor
        · rintro ⟨q, h, hm⟩
          refine ⟨p, List.mem_cons_self, ?_⟩
          have : w.drop p = (w.drop p).take (q - p) ++ w.drop q := by
            conv => lhs; rw [← List.take_append_drop (q - p) (w.drop p)]
            rw [List.drop_drop, Nat.add_sub_cancel' h.1]
          rw [this]
          exact .star hm
        · rintro ⟨p', hp, hm⟩
          obtain ⟨u, v, e, hm⟩ := Mt.star_iff.mp hm
          have hle : p ≤ p' := by
            rcases List.mem_cons.mp hp with rfl | hp
            · exact Nat.le_refl _
            · exact Nat.le_of_lt (List.rel_of_pairwise_cons P.so hp)
          have e2 : v = w.drop (p' + u.length) := by rw [← List.drop_drop, e, List.drop_left]
          have e3 := congrArg List.length e
          rw [List.length_drop, List.length_append] at e3
          refine ⟨p' + u.length, ⟨Nat.le_trans hle (Nat.le_add_right _ _), ?_⟩, e2 ▸ hm⟩
          have := P.le p' hp
          clear hle e e2 hm P
          omega
    · rw [zjJ hk]
      constructor
      · rintro ⟨q, h, hm⟩
        obtain ⟨p, hp, rfl⟩ := List.mem_map.mp h
        have hp := List.mem_filter.mp hp
        simp only [Bool.and_eq_true, decide_eq_true_eq] at hp
        exact ⟨p, hp.1, (zjK hk).mpr ⟨hp.2, hm⟩⟩
      · rintro ⟨p, hp, hm⟩
        have := (zjK hk).mp hm
        refine ⟨p + 1, List.mem_map_of_mem (List.mem_filter.mpr ⟨hp, ?_⟩), this.2⟩
        simp only [Bool.and_eq_true, decide_eq_true_eq]
        exact this.1
theorem pl0 (w : List Nat) : Pl w [0] := ⟨List.pairwise_singleton _ _, fun p h => by rw [List.mem_singleton.mp h]; exact Nat.zero_le _⟩
theorem mv_all {w as : List Nat} : w.length ∈ as.foldl (mv w) [0] ↔ Mt as w := by
  rw [zlO (pl0 w)]
  exact ⟨fun ⟨p, h, hm⟩ => by rw [List.mem_singleton.mp h] at hm; exact hm, fun h => ⟨0, List.mem_cons_self, h⟩⟩
noncomputable def tkB : S := (.seq (.ite (.op .is_ (.cons (.var 4) (.cons (.var 1) .nil))) (.seq (.assign 3 (.ite (.var 3) (.op .listOf (.cons (.rangeI (.cons (.op .index (.cons (.var 3) (.cons (.const (.int 0)) .nil))) (.cons (.op .add (.cons (.op .len (.cons (.var 2) .nil)) (.cons (.const (.int 1)) .nil))) .nil))) .nil)) (.list .nil))) .skip) (.seq (.assign 3 (.comp 5 (.seqI (.var 3)) (.and (.op .lt (.cons (.var 5) (.cons (.op .len (.cons (.var 2) .nil)) .nil))) (.call 14 (.cons (.var 4) (.cons (.op .index (.cons (.var 2) (.cons (.var 5) .nil))) .nil)))) (.op .add (.cons (.var 5) (.cons (.const (.int 1)) .nil))))) .skip)) .skip)
section
variable {cf : CfT}
noncomputable def atD (l : List Nat) : D := .list (l.map nI)
theorem star_ev {ρ : List Slot} {i j : Nat} {w at_ : List Nat} (g : ρ[i]? = some (.val (atD at_))) (g2 : ρ[j]? = some (.val (.str w))) (hw : w.length ≤ 100) (P : Pl w at_) :
    ev cf (.ite (.var i) (.op .listOf (.cons (.rangeI (.cons (.op .index (.cons (.var i) (.cons (.const (.int 0)) .nil))) (.cons (.op .add (.cons (.op .len (.cons (.var j) .nil)) (.cons (.const (.int 1)) .nil))) .nil))) .nil)) (.list .nil)) ρ = some [.own ((mv w at_ 5).map nI)] := by
  rw [zbd, V_v g rfl]
  cases at_ with
  | nil => rfl
  | cons p r =>
    have hp := P.le p List.mem_cons_self
    have h1 : opRange [nI p, nI (w.length + 1)] = some ((List.range' p (w.length + 1 - p)).map nI) := zd2 (Nat.le_trans hp (Nat.le_trans hw (by decide))) (Nat.le_trans (Nat.succ_le_succ hw) (by decide))
    have h0 : opF .index [atD (p :: r), .int 0] = some (.val (nI p)) := zcj (k := 0) rfl (Nat.zero_le _)
    exact V_op1 (zb6 (zaq (V_op2 (V_v g rfl) rfl h0) (zaq (V_op2 (V_op1 (V_v g2 rfl) rfl) rfl (show opF .add [nI w.length, .int 1] = some (.val (nI (w.length + 1))) from rfl)) rfl)) h1) rfl
theorem step_ev {ρ : List Slot} {i j k : Nat} {x : X} {w at_ : List Nat} (g : ρ[i]? = some (.val (atD at_))) (g5 : ∀ d, (ρ.set 5 d)[5]? = some d) (g2 : ∀ d, (ρ.set 5 d)[j]? = some (.val (.str w))) (hk : k ≠ 5)
    (hx : ∀ p, p < w.length → ev cf x (ρ.set 5 (.val (nI p))) = some [.val (.bool (decide (w.getD p 0 ∈ aC k)))]) :
    ev cf (.comp 5 (.seqI (.var i)) (.and (.op .lt (.cons (.var 5) (.cons (.op .len (.cons (.var j) .nil)) .nil))) x) (.op .add (.cons (.var 5) (.cons (.const (.int 1)) .nil)))) ρ = some [.own ((mv w at_ k).map nI)] := by
  rw [zjJ hk, List.map_map]
  refine zep (g := nI) (zcO (V_v g rfl) rfl rfl) fun p _ => zcQ (V_and ?_ fun h => hx p (of_decide_eq_true h)) (fun _ => V_op2 (V_v (g5 _) rfl) rfl rfl) rfl
  have e : opF .lt [nI p, nI w.length] = some (.val (.bool (decide (p < w.length)))) := by
    show some (R.val (.bool (decide ((p : Int) < (w.length : Int))))) = _
    rw [decide_eq_decide.mpr Int.ofNat_lt]
  exact V_op2 (V_v (g5 _) rfl) (V_op1 (V_v (g2 _) rfl) rfl) e
theorem zgu {b : S} {i : Nat} {g : Nat → D} {w : List Nat} {I : List Nat → List Slot → Prop}
    (turn : ∀ k, k < 6 → ∀ a ρ, Pl w a → I a ρ → ∃ ρ', ex cf b (ρ.set i (.val (g k))) = some (ρ', .next) ∧ I (mv w a k) ρ') : ∀ {L : List Nat}, (∀ k ∈ L, k < 6) → ∀ {a : List Nat} {ρ : List Slot}, Pl w a → I a ρ → ∃ ρ', forGo (put1 i) (ex cf b) (L.map g) ρ = some (ρ', .next) ∧ I (L.foldl (mv w) a) ρ'
  | [], _, a, ρ, _, h => ⟨ρ, rfl, h⟩
  | k :: L, hL, a, ρ, P, h => by
    obtain ⟨ρ1, e1, h1⟩ := turn k (hL k List.mem_cons_self) a ρ P h
    obtain ⟨ρ2, e2, h2⟩ := zgu turn (fun k hk => hL k (List.mem_cons_of_mem _ hk)) (mv_pl (k := k) P) h1
    exact ⟨ρ2, zaN (st := put1 i) put1_eq e1 (zbG e2), h2⟩
theorem zfs {w : List Nat} {p : Nat} (h : p < w.length) (hw : w.length ≤ 100) : opF .index [.str w, nI p] = some (.val (.str [w.getD p 0])) := by
  show (if small (p : Int) = true then (match place (p : Int) w.length with | some k => (w[k]?).map (fun c => R.val (.str [c])) | none => none) else none) = _
  rw [if_pos (zaF (Nat.le_trans (Nat.le_of_lt h) (Nat.le_trans hw (by decide))))]
  unfold place
  rw [if_pos (Int.natCast_nonneg p), if_pos (Int.ofNat_lt.mpr h), Int.toNat_natCast]
  show (w[p]?).map (fun c => R.val (.str [c])) = _
  rw [List.getD_eq_getElem?_getD, List.getElem?_eq_getElem h]
  rfl
theorem is4 : (List.range 6).map (fun k => opF .is_ [aP k, .tok 0]) = (List.range 6).map fun k => some (.val (.bool (decide (k = 5)))) := by kernel_rfl
theorem one4 (m : Nat) : [0, 1, 2, 3, 4].map (fun k => sg4.map fun c => callF fns04 (m + 1) 14 [aP k, .str [c]]) = [0, 1, 2, 3, 4].map fun k => sg4.map fun c => some (.bool (decide (c ∈ aC k))) := by kernel_rfl
theorem mem4 : ∀ k, k < 6 → k ≠ 5 → k ∈ [0, 1, 2, 3, 4] := by decide
theorem takes4 (m : Nat) {L w : List Nat} (hL : ∀ k ∈ L, k < 6) (hw : ∀ c ∈ w, c ∈ sg4) (hl : w.length ≤ 100) : ∃ b, callF fns04 (m + 2) 15 [.list (L.map aP), .tok 0, .str w] = some (.bool b) ∧ (b = true ↔ Mt L w) := by
  refine ⟨decide (w.length ∈ L.foldl (mv w) [0]), ?_, by rw [decide_eq_true_eq, mv_all]⟩
  refine zcs (fn := fn_law_takes) rfl (ρ := [.val (.list (L.map aP)), .val (.tok 0), .val (.str w), .unset, .unset, .unset]) rfl ?_
  show ∃ ρ', ex (callF fns04 (m + 1)) s_law_takes _ = _
  obtain ⟨_, e, x, rfl⟩ := zgu (cf := callF fns04 (m + 1)) (b := tkB) (i := 4) (g := aP) (w := w) (I := fun a ρ => ∃ x, ρ = [.val (.list (L.map aP)), .val (.tok 0), .val (.str w), .val (atD a), x, .unset]) (fun k hk a ρ P h => by
    obtain ⟨x, rfl⟩ := h
    refine ⟨_, ?_, .val (aP k), rfl⟩
    have hi := ze6 is4 (List.mem_range.mpr hk)
    unfold tkB
    by_cases h5 : k = 5
    · subst h5
      exact R_seq (R_ite (t := true) (T_of (V_op2 rfl rfl hi)) (R_tt (R_seq (zah (E_of (star_ev rfl rfl hl P) rfl) rfl) (zaf zao)))) (zaf zao)
    · rw [decide_eq_false h5] at hi
      have ho := ze6 (one4 m) (mem4 k hk h5)
      exact R_seq (R_ite (t := false) (T_of (V_op2 rfl rfl hi)) (R_ff (R_seq (zah (E_of (step_ev (k := k) rfl (fun _ => rfl) (fun _ => rfl) h5 fun p hp => zbV (zaq rfl (zaq (V_op2 rfl rfl (zfs hp hl)) rfl)) rfl (ze6 ho (hw _ (zfG hp 0)))) rfl) rfl) (zaf zao)))) (zaf zao)) hL (pl0 w) ⟨.unset, rfl⟩
  unfold tkB at e
  unfold s_law_takes
  exact ⟨_, R_seq (zah (d := atD [0]) rfl rfl) (zaf (R_seq (R_for (I_of (zcO rfl rfl rfl)) e) (zaf (R_seq (R_ret (E_of (V_op2 (V_op1 rfl rfl) rfl zhh) rfl)) zam))))⟩
end
noncomputable def mgA (r : List Nat) (k : Nat) : List Nat := if k = 5 ∧ r.getLast? = some 5 then r else r ++ [k]
noncomputable def mg (as : List Nat) : List Nat := as.foldl mgA []
noncomputable def atO (k : Nat) : Option D := if k = 5 then none else some (aP k)
noncomputable def at2 (k : Nat) : List Nat × Option D := (aT k, atO k)
noncomputable def tx (as : List Nat) : List Nat := as.flatMap aT
theorem tok4 : (List.range 6).map (fun k => isTok0 (aP k)) = (List.range 6).map fun k => decide (k = 5) := by kernel_rfl
theorem push4 {r : List Nat} {k : Nat} (hr : ∀ k ∈ r, k < 6) : pushA (r.map aP) (atO k) = (mgA r k).map aP := by
  unfold atO mgA
  by_cases hk : k = 5
  · subst hk
    rw [if_pos rfl]
    unfold pushA
    rw [List.getLast?_map]
    cases e : r.getLast? with
    | none => rw [if_neg (by decide), if_neg (by simp), List.map_append]; rfl
    | some x =>
      have := ze6 tok4 (List.mem_range.mpr (hr x (List.mem_of_getLast? e)))
      show (if some (isTok0 (aP x)) = some true then _ else _) = _
      rw [this]
      by_cases hx : x = 5
      · subst hx; rfl
      · rw [if_neg (by simp [hx]), if_neg (by simp [hx]), List.map_append]; rfl
  · rw [if_neg hk, if_neg fun h => hk h.1, List.map_append]; rfl
theorem mgA_lt {r : List Nat} {k : Nat} (hr : ∀ k ∈ r, k < 6) (hk : k < 6) : ∀ j ∈ mgA r k, j < 6 := by
  intro j hj
  unfold mgA at hj
  split at hj
  · exact hr j hj
  · rcases List.mem_append.mp hj with h | h
    · exact hr j h
    · rw [List.mem_singleton.mp h]; exact hk
theorem zg6 : ∀ {as r : List Nat}, (∀ k ∈ as, k < 6) → (∀ k ∈ r, k < 6) → outA (r.map aP) (as.map at2) = (as.foldl mgA r).map aP ∧ ∀ k ∈ as.foldl mgA r, k < 6
  | [], r, _, hr => ⟨rfl, hr⟩
  | k :: as, r, h, hr => by
    have := zg6 (as := as) (r := mgA r k) (fun j hj => h j (List.mem_cons_of_mem _ hj)) (mgA_lt hr (h k List.mem_cons_self))
    rw [← push4 hr] at this
    exact this
theorem mt_mgA {r : List Nat} {k : Nat} {q w : List Nat} : Mt (mgA r k ++ q) w ↔ Mt (r ++ k :: q) w := by
  unfold mgA
  split
  · rename_i h
    obtain ⟨rfl, h⟩ := h
    obtain ⟨r', rfl⟩ : ∃ r', r = r' ++ [5] := by
      rcases List.eq_nil_or_concat r with rfl | ⟨r', d, rfl⟩
      · cases h
      · rw [List.concat_eq_append] at h ⊢
        rw [List.getLast?_append] at h
        exact ⟨r', by cases h; rfl⟩
    rw [List.append_assoc, List.append_assoc]
    show Mt (r' ++ 5 :: q) w ↔ Mt (r' ++ 5 :: 5 :: q) w
    rw [Mt.app, Mt.app]
    have e : ∀ v, Mt (5 :: q) v ↔ Mt (5 :: 5 :: q) v := fun v => by
      constructor
      · intro h
        exact .star (u := []) h
      · intro h
        obtain ⟨a, b, rfl, h1⟩ := Mt.star_iff.mp h
        obtain ⟨c, d, rfl, h2⟩ := Mt.star_iff.mp h1
        rw [← List.append_assoc]
        exact .star h2
    simp only [e]
  · rw [List.append_assoc]; rfl
theorem mt_mg : ∀ {as r : List Nat} {w : List Nat}, Mt (as.foldl mgA r) w ↔ Mt (r ++ as) w
  | [], r, w => by rw [List.append_nil]; rfl
  | k :: as, r, w => by rw [List.foldl_cons, mt_mg, mt_mgA]
theorem atoms4 {k : Nat} (h : k < 6) : IsAtom4 (.str [46]) (aT k) (atO k) ∧ ∀ d, atO k = some d → GoodD d ∨ d = .tok 0 := by
  have hg : ∀ k, k < 6 → ∀ d, atO k = some d → GoodD d ∨ d = .tok 0 := fun k hk d e => by
    have g : (List.range 6).map (fun k => (atO k).map fun d => opF .isnot [d, .tok 0]) = (List.range 6).map fun k => (atO k).map fun _ => some (R.val (.bool true)) := by kernel_rfl
    have g := ze6 g (List.mem_range.mpr hk)
    rw [e] at g
    exact .inl (Option.some.inj g)
  have ch := fun {c : Nat} h1 h2 h3 h4 => zkD (q := .str [46]) (c := c) h1 h2 h3 h4
  have all : ∀ k ∈ [0, 1, 2, 3, 4, 5], IsAtom4 (.str [46]) (aT k) (atO k) := List.forall_mem_cons.mpr ⟨ch (by decide) (by decide) (by decide) (by decide), List.forall_mem_cons.mpr ⟨ch (by decide) (by decide) (by decide) (by decide), List.forall_mem_cons.mpr ⟨ch (by decide) (by decide) (by decide) (by decide), List.forall_mem_cons.mpr ⟨zkB, List.forall_mem_cons.mpr ⟨zkC, List.forall_mem_cons.mpr ⟨zhq, fun _ h => nomatch h⟩⟩⟩⟩⟩⟩
  exact ⟨all k ((show ∀ k, k < 6 → k ∈ [0, 1, 2, 3, 4, 5] by decide) k h), hg k h⟩
theorem ziS {as : List Nat} (h : ∀ k ∈ as, k < 6) : (tx as).length ≤ 6 * as.length := by
  have h6 : ∀ k, k < 6 → (aT k).length ≤ 6 := by decide
  induction as with
  | nil => exact Nat.le_refl _
  | cons k as ih =>
    have := ih fun j hj => h j (List.mem_cons_of_mem _ hj)
    show (aT k ++ tx as).length ≤ 6 * (as.length + 1)
    rw [List.length_append, Nat.mul_succ, Nat.add_comm]
    exact Nat.add_le_add this (h6 k (h k List.mem_cons_self))
theorem trans4 (m : Nat) {as : List Nat} (h : ∀ k ∈ as, k < 6) (hl : as.length ≤ 100) : callF fns04 (m + 2) 1 [.str (tx as), .tok 0, .str [46]] = some (.list ((mg as).map aP)) := by
  have ht : textA (as.map at2) = tx as := by unfold textA tx; rw [List.flatMap_map]; rfl
  have hx := ziS h
  have := zdM (fns := fns04) rfl rfl (q := .str [46]) (as := as.map at2) (fun a ha => by
    obtain ⟨k, hk, rfl⟩ := List.mem_map.mp ha
    exact atoms4 (h k hk)) (by rw [List.length_map]; exact Nat.le_trans hl (by decide)) (by rw [ht]; exact Nat.le_trans hx (Nat.le_trans (Nat.mul_le_mul_left 6 hl) (by decide))) m
  rw [ht, show ([] : List D) = ([] : List Nat).map aP from rfl, (zg6 (r := []) h fun _ h => nomatch h).1] at this
  exact this
theorem tt4 (m : Nat) {as w : List Nat} (h : ∀ k ∈ as, k < 6) (hw : ∀ c ∈ w, c ∈ sg4) (hl : w.length ≤ 100) : ∃ b, callF fns04 (m + 2) 15 [.list ((mg as).map aP), .tok 0, .str w] = some (.bool b) ∧ (b = true ↔ Mt as w) := by
  obtain ⟨b, e, hb⟩ := takes4 m (zg6 (r := []) h fun _ h => nomatch h).2 hw hl
  exact ⟨b, e, hb.trans mt_mg⟩
section
variable {fns : Nat → Option Fn}
theorem zdL (h2 : fns 2 = some fn_fspath) (h3 : fns 3 = some fn_get_sep) (h6 : fns 6 = some fn_dirname) (m : Nat) {l x z : List Nat} {r i n : D} {e : D} (hr : opF .rfind [.str l, .str [47]] = some (.val r)) (ha : opF .add [r, .int 1] = some (.val i))
    (s1 : opF .slice [.str l, .none, i] = some (.val (.str x))) (hn : opF .len [.str x] = some (.val n)) (hm : opF .mul [.str [47], n] = some (.val e)) {b : Bool} (he : opF .ne [.str x, e] = some (.val (.bool b)))
    (hs : opF .rstrip [.str x, .str [47]] = some (.val (.str z))) : callF fns (m + 2) 6 [.str l] = some (.str (if x ≠ [] ∧ b = true then z else x)) := by
  refine zcs h6 (ρ := [.val (.str l), .unset, .unset, .unset]) rfl ?_
  show ∃ ρ', ex (callF fns (m + 1)) s_dirname _ = _
  have f1 := zee h2 m l
  have f2 := ziD h3 m l
  generalize callF fns (m + 1) = cf at *
  have c : evT cf (.and (.var 3) (.op .ne (.cons (.var 3) (.cons (.op .mul (.cons (.var 1) (.cons (.op .len (.cons (.var 3) .nil)) .nil))) .nil)))) [.val (.str l), .val (.str [47]), .val i, .val (.str x)] = some (!x.isEmpty && b) := by
    rw [zcc, za4, V_v rfl rfl]
    cases x with
    | nil => rfl
    | cons c x => exact congrArg truthR (V_op2 (V_v rfl rfl) (V_op2 (V_v rfl rfl) (V_op1 (V_v rfl rfl) hn) hm) he)
  have tl : ∃ ρ', ex cf (.seq (.ite (.and (.var 3) (.op .ne (.cons (.var 3) (.cons (.op .mul (.cons (.var 1) (.cons (.op .len (.cons (.var 3) .nil)) .nil))) .nil)))) (.seq (.assign 3 (.op .rstrip (.cons (.var 3) (.cons (.var 1) .nil)))) .skip) .skip) (.seq (.ret (.var 3)) .skip)) [.val (.str l), .val (.str [47]), .val i, .val (.str x)] = some (ρ', .ret (.str (if x ≠ [] ∧ b = true then z else x))) := by
    by_cases h : x ≠ [] ∧ b = true
    · rw [if_pos h]
      have : (!x.isEmpty && b) = true := by
        cases x with
        | nil => exact absurd rfl h.1
        | cons _ _ => exact h.2
      rw [this] at c
      exact ⟨_, R_seq (R_ite c (R_tt (R_seq (zah (E_of (V_op2 (V_v rfl rfl) (V_v rfl rfl) hs) rfl) rfl) (zaf zao)))) (zaf (R_seq (R_ret (E_of (V_v rfl rfl) rfl)) zam))⟩
    · rw [if_neg h]
      have : (!x.isEmpty && b) = false := by
        cases x with
        | nil => rfl
        | cons _ _ => exact Bool.eq_false_iff.mpr fun q => h ⟨List.cons_ne_nil _ _, q⟩
      rw [this] at c
      exact ⟨_, R_seq (R_ite c (R_ff zao)) (zaf (R_seq (R_ret (E_of (V_v rfl rfl) rfl)) zam))⟩
  obtain ⟨ρ', tl⟩ := tl
  unfold s_dirname
  exact ⟨ρ', R_seq (zah (E_of (zbV (zaq (V_v rfl rfl) rfl) rfl f1) rfl) rfl) (zaf (R_seq (zah (E_of (zbV (zaq (V_v rfl rfl) rfl) rfl f2) rfl) rfl) (zaf (R_seq (zah (E_of (V_op2 (V_op2 (V_v rfl rfl) (V_v rfl rfl) hr) rfl ha) rfl) rfl) (zaf (R_seq (zah (E_of (V_op3 (V_v rfl rfl) rfl (V_v rfl rfl) s1) rfl) rfl) (zaf tl)))))))⟩
theorem ziG (h2 : fns 2 = some fn_fspath) (h3 : fns 3 = some fn_get_sep) (h6 : fns 6 = some fn_dirname) (m : Nat) {l : List Nat} (h : 47 ∉ l) : callF fns (m + 2) 6 [.str l] = some (.str []) := by
  have := zdL h2 h3 h6 m (l := l) (x := []) (z := []) (r := .int (-1)) (i := .int 0) (n := .int 0) (e := .str []) (b := false) (ziq h) rfl (o_to (x := []) (y := l) (by simp)) rfl rfl rfl rfl
  simpa using this
theorem ziH (h2 : fns 2 = some fn_fspath) (h3 : fns 3 = some fn_get_sep) (h6 : fns 6 = some fn_dirname) (m : Nat) {x y : List Nat} (h : 47 ∉ y) (hl : x.length < 1000000) :
    callF fns (m + 2) 6 [.str (x ++ 47 :: y)] = some (.str (strip0 (x ++ [47]))) := by
  have e : x ++ 47 :: y = (x ++ [47]) ++ y := by simp
  have hlen : ((x ++ [47]).length : Int) = (x.length : Int) + 1 := by simp
  have := zdL h2 h3 h6 m (l := x ++ 47 :: y) (x := x ++ [47]) (z := ((x ++ [47]).reverse.dropWhile fun c => c == 47).reverse) (r := .int (x.length : Int)) (i := .int ((x ++ [47]).length : Int)) (n := .int ((x ++ [47]).length : Int))
    (e := .str (List.replicate (x ++ [47]).length 47)) (b := !decide (x ++ [47] = List.replicate (x ++ [47]).length 47)) (zir h) (by rw [hlen]; rfl) (by rw [e]; exact o_to (by simp; omega)) rfl (zk6 (by unfold lim; simp; omega)) rfl zft
  rw [this]
  unfold strip0
  by_cases hx : x ++ [47] = List.replicate (x ++ [47]).length 47
  · rw [if_pos hx, if_neg (by rintro ⟨_, q⟩; rw [Bool.not_eq_true', decide_eq_false_iff_not] at q; exact q hx)]
  · rw [if_neg hx, if_pos ⟨by simp, by rw [Bool.not_eq_true', decide_eq_false_iff_not]; exact hx⟩]
end
noncomputable def NameOK (w : List Nat) : Prop := w ≠ [] ∧ 47 ∉ w
section
variable {fns : Nat → Option Fn}
end
noncomputable def nD (n : List (List Nat)) : D := .list (n.map .str)
theorem zko {a b : List Nat} : PyData.eqv (D.str a).toPy (D.str b).toPy = decide (a = b) := by
  have h := fun (x y : PySem.Str) => (show PyData.eqv (.str x) (.str y) = (x == y) from by simp [PyData.eqv])
  show PyData.eqv (.str ⟨a.toArray⟩) (.str ⟨b.toArray⟩) = _
  rw [h]
  by_cases e : a = b
  · subst e; simp
  · rw [decide_eq_false e, beq_eq_false_iff_ne]
    intro q
    exact e (by simpa using q)
theorem zh0 : ∀ {a b : List (List Nat)}, PyData.eqvAll (D.toPys (a.map .str)) (D.toPys (b.map .str)) = decide (a = b)
  | [], [] => rfl
  | [], _ :: _ => by simp [D.toPys, PyData.eqvAll]
  | _ :: _, [] => by simp [D.toPys, PyData.eqvAll]
  | x :: a, y :: b => by
    simp only [List.map_cons, D.toPys, PyData.eqvAll, zko, zh0 (a := a) (b := b)]
    by_cases h1 : x = y <;> by_cases h2 : a = b <;> simp [h1, h2]
theorem eqv_nD {a b : List (List Nat)} : PyData.eqv (nD a).toPy (nD b).toPy = decide (a = b) := by
  unfold nD D.toPy
  rw [PyData.eqv]
  exact zh0
theorem zg7 : ∀ {k : Nat} {l : List (List Nat)}, D.oks (k + 1) (l.map .str) = true
  | _, [] => rfl
  | k, s :: l => by
    rw [List.map_cons]
    unfold D.oks
    rw [zg7]; rfl
theorem ok_nD {k : Nat} {n : List (List Nat)} : (nD n).ok (k + 2) = true := by
  unfold nD D.ok
  exact zg7
theorem o_eq_nD {a b : List (List Nat)} : opF .eq [nD a, nD b] = some (.val (.bool (decide (a = b)))) := by
  have e : eqD (nD a) (nD b) = some (decide (a = b)) := by
    show (if ((nD a).ok 9 && (nD b).ok 9) = true then some (PyData.eqv (nD a).toPy (nD b).toPy) else none) = _
    rw [ok_nD, ok_nD, eqv_nD]; rfl
  show (eqD (nD a) (nD b)).map (fun x => R.val (.bool x)) = _
  rw [e]; rfl
noncomputable def sp (l : List Nat) : List (List Nat) := (Txt.split ⟨l.toArray⟩ ⟨[47].toArray⟩).map (·.cps.toList)
theorem sp_ne (l : List Nat) : sp l ≠ [] := by
  intro h
  have h' : Txt.split ⟨l.toArray⟩ ⟨[47].toArray⟩ = [] := List.map_eq_nil_iff.mp h
  unfold Txt.split at h'
  split at h'
  · cases h'
  · split at h'
    · cases h'
    · rw [partsBetween_eq] at h'
      obtain ⟨p, r, e⟩ := partsFrom_ne ⟨l.toArray⟩ (PySem.Str.mk [47].toArray).length 0 (occurrences ⟨l.toArray⟩ ⟨[47].toArray⟩ 0 (PySem.Str.mk l.toArray).length ((PySem.Str.mk l.toArray).length + 1))
      rw [e] at h'; cases h'
theorem zcR {l : List Nat} : ∀ p ∈ sp l, 47 ∉ p := by
  intro p hp
  obtain ⟨q, hq, rfl⟩ := List.mem_map.mp hp
  exact split_free ⟨l.toArray⟩ 47 q hq
theorem zgn : ∀ ps : List PySem.Str, (PySem.Str.join ⟨[47].toArray⟩ ps).cps.toList = joinL [47] (ps.map (·.cps.toList))
  | [] => rfl
  | [x] => rfl
  | x :: y :: r => by
    have ih := zgn (y :: r)
    show ((x ++ ⟨[47].toArray⟩ ++ PySem.Str.join ⟨[47].toArray⟩ (y :: r) : PySem.Str)).cps.toList = x.cps.toList ++ [47] ++ joinL [47] ((y :: r).map (·.cps.toList))
    rw [← ih]
    show (x.cps ++ [47].toArray ++ (PySem.Str.join ⟨[47].toArray⟩ (y :: r)).cps).toList = _
    simp
theorem zaS (l : List Nat) : joinL [47] (sp l) = l := by
  have := zgn (Txt.split ⟨l.toArray⟩ ⟨[47].toArray⟩)
  rw [join_split] at this
  exact this.symm
theorem zec {s a b : List Nat} {r : List (List Nat)} : joinL s (a :: b :: r) = a ++ s ++ joinL s (b :: r) := rfl
theorem zlo {a a' : List Nat} {u v : List Nat} (h : 47 ∉ a) (h' : 47 ∉ a') (e : a ++ 47 :: u = a' ++ 47 :: v) : a = a' ∧ u = v := by
  induction a generalizing a' with
  | nil =>
    cases a' with
    | nil => simp at e; exact ⟨rfl, e⟩
    | cons c a' => simp at e; exact absurd e.1 (by intro q; exact h' (by rw [← q]; simp))
  | cons c a ih =>
    cases a' with
    | nil => simp at e; exact absurd e.1 (by intro q; exact h (by rw [q]; simp))
    | cons d a' =>
      simp at e
      obtain ⟨x, y⟩ := ih (fun q => h (List.mem_cons_of_mem _ q)) (fun q => h' (List.mem_cons_of_mem _ q)) e.2
      exact ⟨by rw [e.1, x], y⟩
theorem zgr : ∀ {a b : List (List Nat)}, a ≠ [] → b ≠ [] → (∀ w ∈ a, 47 ∉ w) → (∀ w ∈ b, 47 ∉ w) → joinL [47] a = joinL [47] b → a = b
  | [], _, h, _, _, _, _ => absurd rfl h
  | _ :: _, [], _, h, _, _, _ => absurd rfl h
  | [x], [y], _, _, _, _, e => by rw [show x = y from e]
  | [x], y :: z :: r, _, _, h1, _, e => by
    exfalso
    have : x = y ++ [47] ++ joinL [47] (z :: r) := e
    exact h1 x (by simp) (by rw [this]; simp)
  | x :: z :: r, [y], _, _, _, h2, e => by
    exfalso
    have : x ++ [47] ++ joinL [47] (z :: r) = y := e
    exact h2 y (by simp) (by rw [← this]; simp)
  | x :: z :: r, y :: w :: t, _, _, h1, h2, e => by
    have e' : x ++ 47 :: joinL [47] (z :: r) = y ++ 47 :: joinL [47] (w :: t) := by
      have e2 : x ++ [47] ++ joinL [47] (z :: r) = y ++ [47] ++ joinL [47] (w :: t) := e
      simpa using e2
    obtain ⟨a, b⟩ := zlo (h1 x (by simp)) (h2 y (by simp)) e'
    rw [a, zgr (by simp) (by simp) (fun w hw => h1 w (List.mem_cons_of_mem _ hw)) (fun w hw => h2 w (List.mem_cons_of_mem _ hw)) b]
theorem sp_of {ns : List (List Nat)} (h0 : ns ≠ []) (h : ∀ w ∈ ns, 47 ∉ w) : sp (joinL [47] ns) = ns := zgr (sp_ne _) h0 zcR h (zaS _)
theorem o_split {l : List Nat} (h : l.length + 2 ≤ lim) : opF .split [.str l, .str [47]] = some (.own ((sp l).map .str)) := by
  show (if ([47] : List Nat).length = 1 ∧ l.length + 2 ≤ lim then some (R.own ((Txt.split ⟨l.toArray⟩ ⟨[47].toArray⟩).map fun x => .str x.cps.toList)) else none) = _
  rw [if_pos ⟨rfl, h⟩]
  unfold sp
  rw [List.map_map]; rfl
theorem zcu : ∀ ls : List (List Nat), toStrs (ls.map .str) = some ls
  | [] => rfl
  | l :: ls => by
    rw [List.map_cons]
    unfold toStrs
    rw [zcu ls]; rfl
theorem o_joins {ls : List (List Nat)} (h : (joinL [47] ls).length ≤ lim) : opF .join [.str [47], .list (ls.map .str)] = some (.val (.str (joinL [47] ls))) := by
  show (match toStrs (ls.map .str) with
    | some ls => if (joinL [47] ls).length ≤ lim then some (R.val (.str (joinL [47] ls))) else none
    | none => none) = _
  rw [zcu]
  simp only
  rw [if_pos h]
set_option genInjectivity false in
structure Clean (w : List Nat) : Prop where
  ne : w ≠ []
  sl : 47 ∉ w
  d1 : w ≠ [46]
  d2 : w ≠ [46, 46]
noncomputable def told (ns : List (List Nat)) : List Nat := 47 :: joinL [47] ns
theorem Clean.nm {w : List Nat} (h : Clean w) : NameOK w := ⟨h.ne, h.sl⟩
theorem zlm {ns : List (List Nat)} (h0 : ns ≠ []) (h : ∀ w ∈ ns, NameOK w) : joinL [47] ns ≠ [] := by
  match ns, h0 with
  | [x], _ => exact (h x (by simp)).1
  | x :: y :: r, _ => rw [zec]; simp
theorem zix {ns : List (List Nat)} (h : ∀ w ∈ ns, NameOK w) : (joinL [47] ns).head? ≠ some 47 := by
  intro q
  match ns with
  | [] => cases q
  | [x] => exact (h x (by simp)).2 (List.mem_of_head? q)
  | x :: y :: r =>
    obtain ⟨h0, h1⟩ := h x (by simp)
    cases x with
    | nil => exact h0 rfl
    | cons c x => cases q; exact h1 (by simp)
section
variable {fns : Nat → Option Fn}
end
noncomputable abbrev Nms := List (List Nat)
noncomputable def cp : Nms → Nms → Nms
  | x :: a, y :: b => if x = y then x :: cp a b else []
  | _, _ => []
theorem zej {x y : List Nat} {a b : Nms} : cp (x :: a) (y :: b) = if x = y then x :: cp a b else [] := rfl
theorem cp_nil {a : Nms} : cp a [] = [] := by cases a <;> rfl
theorem zlZ : ∀ a b : Nms, (cp a b).length ≤ a.length
  | [], _ => Nat.le_refl _
  | _ :: _, [] => Nat.zero_le _
  | x :: a, y :: b => by
    rw [zej]
    split
    · exact Nat.succ_le_succ (zlZ a b)
    · exact Nat.zero_le _
theorem zhf {a : List Nat} : ltL a a = false := decide_eq_false (List.lt_irrefl a)
theorem zfB {a b : List Nat} (h : ltL a b = false) (h2 : ltL b a = false) : a = b := by
  have h1 : ¬ a < b := of_decide_eq_false h
  have h2 : ¬ b < a := of_decide_eq_false h2
  exact List.le_antisymm (List.not_lt.mp h2) (List.not_lt.mp h1)
theorem zd9 {x y : List Nat} {a b : Nms} : ltSs (x :: a) (y :: b) = if x = y then ltSs a b else ltL x y := by rw [ltSs]
theorem zjR : ∀ a : Nms, ltSs a a = false
  | [] => by rw [ltSs]
  | x :: a => by rw [zd9, if_pos rfl, zjR a]
theorem zjQ : ∀ {a b : Nms}, ltSs a b = false → ltSs b a = false → a = b
  | [], [], _, _ => rfl
  | [], _ :: _, h, _ => by rw [ltSs] at h; cases h
  | _ :: _, [], _, h => by rw [ltSs] at h; cases h
  | x :: a, y :: b, h, h2 => by
    rw [zd9] at h h2
    by_cases e : x = y
    · rw [if_pos e] at h
      rw [if_pos e.symm] at h2
      rw [e, zjQ h h2]
    · rw [if_neg e] at h
      rw [if_neg fun q => e q.symm] at h2
      exact absurd (zfB h h2) e
theorem zlS {a b : Nms} : ltD (nD a) (nD b) = some (ltSs a b) := by
  show (match toStrs (a.map .str), toStrs (b.map .str) with | some x, some y => some (ltSs x y) | _, _ => none) = _
  rw [zcu, zcu]
section
variable {cf : CfT} {x0 x3 x4 : Slot}
end
section
variable {fns : Nat → Option Fn}
end
theorem zgq : ∀ (ns : Nms) (k : Nat), (∀ w ∈ ns, w.length ≤ k) → (joinL [47] ns).length ≤ (k + 1) * ns.length
  | [], _, _ => Nat.zero_le _
  | [x], k, h => Nat.le_trans (Nat.le_succ_of_le (h x List.mem_cons_self)) (Nat.le_of_eq (Nat.mul_one _).symm)
  | x :: y :: r, k, h => by
    have h1 := h x List.mem_cons_self
    have h2 := zgq (y :: r) k fun w hw => h w (List.mem_cons_of_mem _ hw)
    rw [zec, List.length_cons (a := x), Nat.mul_succ, List.length_append, List.length_append, Nat.add_comm]
    exact Nat.add_le_add h2 (Nat.succ_le_succ h1)
section
variable {fns : Nat → Option Fn}
end
theorem zea {a b c : List Nat} (h : ltL a b = true) (h2 : ltL b c = true) : ltL a c = true := decide_eq_true (List.lt_trans (of_decide_eq_true h) (of_decide_eq_true h2))
theorem lt_trans : ∀ {a b c : Nms}, ltSs a b = true → ltSs b c = true → ltSs a c = true
  | _, [], [], _, h => by rw [ltSs] at h; cases h
  | _, _ :: _, [], _, h => by rw [ltSs] at h; cases h
  | [], [], _, h, _ => by rw [ltSs] at h; cases h
  | _ :: _, [], _, h, _ => by rw [ltSs] at h; cases h
  | [], _, _ :: _, _, _ => by rw [ltSs]
  | x :: a, y :: b, z :: c, h, h2 => by
    rw [zd9] at h h2 ⊢
    by_cases e : x = y
    · subst e
      rw [if_pos rfl] at h
      by_cases e2 : x = z
      · rw [if_pos e2] at h2 ⊢
        exact lt_trans h h2
      · rw [if_neg e2] at h2 ⊢
        exact h2
    · rw [if_neg e] at h
      by_cases e2 : y = z
      · subst e2
        rw [if_neg e]
        exact h
      · rw [if_neg e2] at h2
        have := zea h h2
        rw [if_neg fun e3 => by rw [e3, zhf] at this; cases this]
        exact this
set_option genInjectivity false in
structure Ord {α : Type} (f : α → D) (lt : α → α → Bool) (better : D → D → Option Bool) : Prop where
  tr : ∀ {a b c}, lt a b = true → lt b c = true → lt a c = true
  tot : ∀ {a b}, lt a b = false → lt b a = false → a = b
  irr : ∀ a, lt a a = false
  is : ∀ a b, better (f a) (f b) = some (lt a b)
theorem ordL : Ord nD ltSs ltD := ⟨lt_trans, zjQ, zjR, fun _ _ => zlS⟩
theorem ordG : Ord nD (fun a b => ltSs b a) gtD := ⟨fun h h2 => lt_trans h2 h, fun h h2 => zjQ h2 h, zjR, fun _ _ => zlS⟩
theorem zem {α : Type} {f : α → D} {lt : α → α → Bool} {better : D → D → Option Bool} (O : Ord f lt better) : ∀ {l : List α} {a : α}, ∃ s, bestGo better (f a) (l.map f) = some (f s) ∧ s ∈ a :: l ∧ ∀ n ∈ a :: l, lt n s = false
  | [], a => ⟨a, rfl, List.mem_cons_self, fun n h => by cases List.mem_singleton.mp h; exact O.irr a⟩
  | d :: l, a => by
    have get : ∀ {x y : α}, (∀ s, lt x s = false → lt y x = false → lt y s = false) := fun {x y} s h1 h2 => by
      cases e : lt y s
      · rfl
      · cases e2 : lt s x
        · rw [O.tot h1 e2] at h2
          rw [h2] at e; cases e
        · rw [O.tr e e2] at h2; cases h2
    rw [List.map_cons]
    unfold bestGo
    rw [O.is]
    cases e : lt d a
    · obtain ⟨s, h1, h2, h3⟩ := zem O (l := l) (a := a)
      have ha := h3 a List.mem_cons_self
      refine ⟨s, h1, ?_, fun n hn => ?_⟩
      · rcases List.mem_cons.mp h2 with h | h
        · rw [h]; exact List.mem_cons_self
        · exact List.mem_cons_of_mem _ (List.mem_cons_of_mem _ h)
      · rcases List.mem_cons.mp hn with rfl | hn
        · exact ha
        · rcases List.mem_cons.mp hn with rfl | hn
          · exact get s ha e
          · exact h3 n (List.mem_cons_of_mem _ hn)
    · obtain ⟨s, h1, h2, h3⟩ := zem O (l := l) (a := d)
      refine ⟨s, h1, List.mem_cons_of_mem _ h2, fun n hn => ?_⟩
      rcases List.mem_cons.mp hn with rfl | hn
      · refine get s (h3 d List.mem_cons_self) ?_
        cases e2 : lt n d
        · rfl
        · rw [← O.irr n]; exact (O.tr e2 e).symm
      · exact h3 n hn
set_option genInjectivity false in
structure IsCp (L : List Nms) (p : Nms) : Prop where
  pre : ∀ n ∈ L, p <+: n
  top : ∀ q, (∀ n ∈ L, q <+: n) → q <+: p
theorem zlW : ∀ {q a b : Nms}, q <+: a → q <+: b → q <+: cp a b
  | [], _, _, _, _ => List.nil_prefix
  | c :: q, [], _, h, _ => absurd (List.prefix_nil.mp h) (List.cons_ne_nil _ _)
  | c :: q, _, [], _, h => absurd (List.prefix_nil.mp h) (List.cons_ne_nil _ _)
  | c :: q, x :: a, y :: b, h1, h2 => by
    obtain ⟨e1, h1⟩ := List.cons_prefix_cons.mp h1
    obtain ⟨e2, h2⟩ := List.cons_prefix_cons.mp h2
    rw [zej, if_pos (e1 ▸ e2), e1]
    exact List.cons_prefix_cons.mpr ⟨rfl, zlW h1 h2⟩
theorem IsCp.eq {L : List Nms} {p q : Nms} (h : IsCp L p) (h2 : IsCp L q) : p = q :=
  (h2.top p h.pre).eq_of_length (Nat.le_antisymm (h2.top p h.pre).length_le (h.top q h2.pre).length_le)
theorem zlY : ∀ {a b n : Nms}, ltSs n a = false → ltSs b n = false → cp a b <+: n
  | [], _, _, _, _ => List.nil_prefix
  | _ :: _, [], _, _, _ => by rw [cp_nil]; exact List.nil_prefix
  | x :: a, y :: b, [], h, _ => by rw [ltSs] at h; cases h
  | x :: a, y :: b, z :: n, h1, h2 => by
    rw [zej]
    by_cases e : x = y
    · subst e
      rw [if_pos rfl]
      rw [zd9] at h1 h2
      by_cases e : x = z
      · subst e
        rw [if_pos rfl] at h1 h2
        exact List.cons_prefix_cons.mpr ⟨rfl, zlY h1 h2⟩
      · rw [if_neg fun q => e q.symm] at h1
        rw [if_neg e] at h2
        exact absurd (zfB h2 h1) e
    · rw [if_neg e]; exact List.nil_prefix
theorem zlX : ∀ a b : Nms, cp a b <+: a
  | [], _ => List.nil_prefix
  | _ :: _, [] => List.nil_prefix
  | x :: a, y :: b => by
    rw [zej]
    split
    · exact List.cons_prefix_cons.mpr ⟨rfl, zlX a b⟩
    · exact List.nil_prefix
theorem za5 : ∀ {b c : Nms}, b ≠ [] → c ≠ [] → joinL [47] (b ++ c) = joinL [47] b ++ 47 :: joinL [47] c
  | [], _, h, _ => absurd rfl h
  | [x], [], _, h => absurd rfl h
  | [x], y :: c, _, _ => by
    show x ++ [47] ++ joinL [47] (y :: c) = x ++ 47 :: _
    rw [List.append_assoc]; rfl
  | x :: y :: b, c, _, h => by
    have := za5 (b := y :: b) (List.cons_ne_nil _ _) h
    show x ++ [47] ++ joinL [47] ((y :: b) ++ c) = x ++ [47] ++ joinL [47] (y :: b) ++ _
    rw [this, List.append_assoc, List.append_assoc, List.append_assoc]
theorem zgs {d : Nms} (h0 : d ≠ []) (h : ∀ w ∈ d, NameOK w) : ∃ t c, joinL [47] d = t ++ [c] ∧ c ≠ 47 := by
  obtain ⟨d', w, rfl⟩ : ∃ d' w, d = d' ++ [w] := ⟨_, _, (List.dropLast_concat_getLast h0).symm⟩
  obtain ⟨w0, w1⟩ := h w (List.mem_append_right _ List.mem_cons_self)
  obtain ⟨w', c, rfl⟩ : ∃ w' c, w = w' ++ [c] := ⟨_, _, (List.dropLast_concat_getLast w0).symm⟩
  have hc : c ≠ 47 := fun q => w1 (by rw [q]; exact List.mem_append_right _ List.mem_cons_self)
  by_cases h1 : d' = []
  · subst h1
    exact ⟨w', c, rfl, hc⟩
  · exact ⟨joinL [47] d' ++ 47 :: w', c, by rw [za5 h1 (List.cons_ne_nil _ _), List.append_assoc]; rfl, hc⟩
theorem zkq {t : List Nat} {c : Nat} (h : c ≠ 47) : ((t ++ [c]).reverse.dropWhile fun x => x == 47).reverse = t ++ [c] := by
  rw [List.reverse_append, List.reverse_singleton, List.singleton_append, List.dropWhile_cons_of_neg (by rw [beq_eq_false_iff_ne.mpr h]; exact Bool.false_ne_true), List.reverse_cons, List.reverse_reverse]
noncomputable def pth (r : Bool) (n : Nms) : List Nat := if r then told n else joinL [47] n
theorem spf {r : Bool} {n : Nms} (h : ∀ w ∈ n, Clean w) : ((sp (pth r n)).filter fun w => !decide (w = []) && !decide (w = [46])) = n := by
  have h0 : (n.filter fun w => !decide (w = []) && !decide (w = [46])) = n := List.filter_eq_self.mpr fun w hw => by
    rw [decide_eq_false (h w hw).ne, decide_eq_false (h w hw).d1]; rfl
  have hs : ∀ w ∈ n, 47 ∉ w := fun w hw => (h w hw).sl
  cases r with
  | true =>
    show ((sp (told n)).filter _) = _
    cases n with
    | nil => rw [show told [] = joinL [47] [[], []] from rfl, sp_of (by decide) (by decide)]; rfl
    | cons w n =>
      rw [show told (w :: n) = joinL [47] ([] :: w :: n) from rfl, sp_of (List.cons_ne_nil _ _) (List.forall_mem_cons.mpr ⟨List.not_mem_nil, hs⟩)]
      exact h0
  | false =>
    show ((sp (joinL [47] n)).filter _) = _
    cases n with
    | nil => rw [show joinL [47] [] = joinL [47] [[]] from rfl, sp_of (by decide) (by decide)]; rfl
    | cons w n =>
      rw [sp_of (List.cons_ne_nil _ _) hs]
      exact h0
theorem zi3 {r : Bool} {n : Nms} (h : ∀ w ∈ n, Clean w) : opF .startswith [.str (pth r n), .str [47]] = some (.val (.bool r)) := by
  rw [zgd]
  cases r with
  | true => rfl
  | false =>
    show some (R.val (.bool (decide ((joinL [47] n).head? = some 47)))) = _
    rw [decide_eq_false (zix fun w hw => (h w hw).nm)]
theorem zcZ {α β : Type} {f : α → Option β} {g : α → β} : ∀ {l : List α}, (∀ a ∈ l, f a = some (g a)) → allSome (l.map f) = some (l.map g)
  | [], _ => rfl
  | a :: l, h => by
    rw [List.map_cons, h a List.mem_cons_self]
    unfold allSome
    rw [zcZ fun b hb => h b (List.mem_cons_of_mem _ hb)]; rfl
section
variable {cf : CfT} {ρ : List Slot}
theorem zl6 {α : Type} {f : Nat} {x : X} {a : R} {l : List α} {g v : α → D} (h : ev cf x ρ = some [a]) (h2 : a.ds = .list (l.map g)) (hv : ∀ a ∈ l, cf f [g a] = some (v a)) : ev cf (.mapF f x) ρ = some [.val (.tup (l.map v))] := by
  rw [za1, h]
  simp only [h2]
  rw [List.map_map]
  exact congrArg (Option.map _) (zcZ hv)
theorem V_setI {α : Type} {i : Nat} {it e : X} {l : List α} {g : α → D} {b : Bool} (h : ev cf it ρ = some [.val (.list (l.map g))]) (h0 : l ≠ []) (hv : ∀ a ∈ l, ev cf e (ρ.set i (.val (g a))) = some [.val (.bool b)]) : ev cf (.setI i it e) ρ = some [.val (.bool b)] := by
  rw [za8, h]
  simp only
  rw [zb4 (p := fun _ => true) (v := fun _ => .bool b) fun a ha => zcQ (p := true) rfl (fun _ => hv a ha) rfl, List.filter_eq_self.mpr fun _ _ => rfl]
  cases l with
  | nil => exact absurd rfl h0
  | cons a l =>
    show (if ((l.map fun _ => D.bool b).all fun d => match d with | .bool b' => b' == b | _ => false) = true then some [R.val (.bool b)] else none) = _
    rw [if_pos (by rw [List.all_eq_true]; intro d hd; obtain ⟨_, _, rfl⟩ := List.mem_map.mp hd; exact beq_self_eq_true b)]
theorem keep_ev {i j : Nat} {w : List Nat} (g : ρ[i]? = some (.val (.str w))) (g2 : ρ[j]? = some (.val (.str [46]))) : turnD (ev cf (.and (.var i) (.op .ne (.cons (.var i) (.cons (.var j) .nil)))) ρ) (ev cf (.var i) ρ) = some (if (!decide (w = []) && !decide (w = [46])) = true then some (.str w) else none) := by
  rw [za4, V_v g rfl]
  cases w with
  | nil => rfl
  | cons c w =>
    show turnD (ev cf _ ρ) _ = _
    rw [V_op2 (V_v g rfl) (V_v g2 rfl) (ne_str _ _)]
    show (match (some (!decide (c :: w = [46])) : Option Bool) with | some true => some (some (D.str (c :: w))) | some false => some none | none => none) = _
    rw [decide_eq_false (List.cons_ne_nil c w)]
    cases decide (c :: w = [46]) <;> rfl
theorem zlk {i j k : Nat} {r : Bool} {n : Nms} (hn : ∀ w ∈ n, Clean w) (g : ρ[i]? = some (.val (nD (sp (pth r n))))) (g2 : ∀ d, (ρ.set k d)[k]? = some d) (g3 : ∀ d, (ρ.set k d)[j]? = some (.val (.str [46]))) :
    ev cf (.comp k (.seqI (.var i)) (.and (.var k) (.op .ne (.cons (.var k) (.cons (.var j) .nil)))) (.var k)) ρ = some [.own (n.map .str)] := by
  have := zep (cf := cf) (ρ := ρ) (i := k) (v := D.str) (g := D.str) (zcO (V_v g rfl) rfl rfl) fun w hw => keep_ev (g2 (.val (.str w))) (g3 (.val (.str w)))
  rw [spf hn] at this
  exact this
end
noncomputable def cmB : S := (.seq (.ite (.op .ne (.cons (.var 5) (.cons (.op .index (.cons (.var 7) (.cons (.var 9) .nil))) .nil))) (.seq (.assign 8 (.op .slice (.cons (.var 6) (.cons (.const .none) (.cons (.var 9) .nil))))) (.seq .brk .skip)) .skip) .skip)
theorem zkv {cf : CfT} {x0 x1 x2 x3 x4 y0 y1 y2 y3 y4 : Slot} {x8 : D} : ∀ (u v p : Nms) (x5 x9 : Slot), (p ++ u).length ≤ 100000 → ltSs v u = false → (cp u v = u → x8 = nD (p ++ u)) →
    ∃ z5 z9, forGo (put2 9 5) (ex cf cmB) (enumL (p.length : Int) (u.map .str)) [x0, x1, x2, x3, x4, x5, .val (nD (p ++ u)), .val (nD (p ++ v)), .val x8, x9, y0, y1, y2, y3, y4] = some ([x0, x1, x2, x3, x4, z5, .val (nD (p ++ u)), .val (nD (p ++ v)), .val (nD (p ++ cp u v)), z9, y0, y1, y2, y3, y4], .next)
  | [], v, p, x5, x9, _, _, h => ⟨x5, x9, by rw [h rfl]; rfl⟩
  | c :: u, [], p, x5, x9, _, h, _ => by rw [ltSs] at h; cases h
  | c :: u, d :: v, p, x5, x9, hl, hlt, h8 => by
    have hp : p.length ≤ 1000000 := by
      rw [List.length_append] at hl
      exact Nat.le_trans (Nat.le_trans (Nat.le_add_right _ _) hl) (by decide)
    have h1 : opF .index [nD (p ++ d :: v), .int (p.length : Int)] = some (.val (.str d)) := zcj (by rw [List.map_append, List.getElem?_append_right (by rw [List.length_map]; exact Nat.le_refl _), List.length_map, Nat.sub_self]; rfl) hp
    by_cases hcd : c = d
    · subst hcd
      rw [zd9, if_pos rfl] at hlt
      obtain ⟨z5, z9, e⟩ := zkv (cf := cf) (x0 := x0) (x1 := x1) (x2 := x2) (x3 := x3) (x4 := x4) (y0 := y0) (y1 := y1) (y2 := y2) (y3 := y3) (y4 := y4) (x8 := x8) u v (p ++ [c]) (.val (.str c)) (.val (.int (p.length : Int))) (by rw [List.append_assoc]; exact hl) hlt fun e => by rw [List.append_assoc]; exact h8 (by rw [zej, if_pos rfl, e])
      have e2 : cp (c :: u) (c :: v) = c :: cp u v := if_pos rfl
      rw [e2]
      refine ⟨z5, z9, zaN (st := put2 9 5) (o := .next) (ρ₂ := [x0, x1, x2, x3, x4, .val (.str c), .val (nD (p ++ c :: u)), .val (nD (p ++ c :: v)), .val x8, .val (.int (p.length : Int)), y0, y1, y2, y3, y4]) zjm ?_ (zbG ?_)⟩
      · unfold cmB
        refine R_seq (R_ite (t := false) (T_of (V_op2 (V_v rfl rfl) (V_op2 (V_v rfl rfl) (V_v rfl rfl) h1) ?_)) (R_ff zao)) (zaf zao)
        exact (ne_str c c).trans (by rw [decide_eq_true rfl]; rfl)
      · rw [List.append_assoc, List.append_assoc, List.append_assoc, List.length_append] at e
        exact e
    · have e2 : cp (c :: u) (d :: v) = [] := if_neg hcd
      rw [e2, List.append_nil]
      have h3 : opF .slice [nD (p ++ c :: u), .none, .int (p.length : Int)] = some (.own (p.map .str)) := by
        have := o_takeN (l := (p ++ c :: u).map D.str) (n := p.length) hp (by rw [List.length_map, List.length_append]; exact Nat.le_add_right _ _)
        rw [← List.map_take, List.take_left' rfl] at this
        exact this
      refine ⟨.val (.str c), .val (.int (p.length : Int)), zaN (st := put2 9 5) (o := .brk) zjm ?_ zer⟩
      unfold cmB
      refine R_seq (R_ite (t := true) (T_of (V_op2 (V_v rfl rfl) (V_op2 (V_v rfl rfl) (V_v rfl rfl) h1) ?_)) (R_tt (R_seq (zah (E_of (V_op3 (V_v rfl rfl) rfl (V_v rfl rfl) h3) rfl) rfl) (zaf (R_seq R_brk zbv))))) zbv
      exact (ne_str c d).trans (by rw [decide_eq_false hcd]; rfl)
theorem zk7 {α : Type} {l : List α} {v : α → D} (d : α) (h : l ≠ []) : opF .index [.tup (l.map v), .int 0] = some (.val (v (l.head h))) := by
  cases l with
  | nil => exact absurd rfl h
  | cons a l => exact zfr (k := 0) rfl (by decide)
theorem min_of {l : List Nms} (h : l ≠ []) : ∃ s, opF .min [.list (l.map nD)] = some (.val (nD s)) ∧ s ∈ l ∧ ∀ n ∈ l, ltSs n s = false := by
  cases l with
  | nil => exact absurd rfl h
  | cons a l =>
    obtain ⟨s, e, h⟩ := zem ordL (l := l) (a := a)
    exact ⟨s, by show (bestGo ltD (nD a) (l.map nD)).map R.val = _; rw [e]; rfl, h⟩
theorem max_of {l : List Nms} (h : l ≠ []) : ∃ s, opF .max [.list (l.map nD)] = some (.val (nD s)) ∧ s ∈ l ∧ ∀ n ∈ l, ltSs s n = false := by
  cases l with
  | nil => exact absurd rfl h
  | cons a l =>
    obtain ⟨s, e, h⟩ := zem ordG (l := l) (a := a)
    exact ⟨s, by show (bestGo gtD (nD a) (l.map nD)).map R.val = _; rw [e]; rfl, h⟩
theorem zfK {fns : Nat → Option Fn} (h2 : fns 2 = some fn_fspath) (h13 : fns 13 = some fn_commonpath) (m : Nat) {r : Bool} {L : List Nms} (h0 : L ≠ []) (hc : ∀ n ∈ L, ∀ w ∈ n, Clean w) (hl : ∀ n ∈ L, n.length ≤ 1000) (hw : ∀ n ∈ L, ∀ w ∈ n, w.length ≤ 90) :
    ∃ p, callF fns (m + 2) 13 [.list (L.map fun n => .str (pth r n))] = some (.str (pth r p)) ∧ IsCp L p := by
  obtain ⟨s, e1, m1, f1⟩ := min_of h0
  obtain ⟨t, e2, m2, f2⟩ := max_of h0
  have hp : IsCp L (cp s t) := ⟨fun n hn => zlY (f1 n hn) (f2 n hn), fun q hq => zlW (hq s m1) (hq t m2)⟩
  refine ⟨cp s t, zcs h13 (ρ := [.val (.list (L.map fun n => .str (pth r n))), .unset, .unset, .unset, .unset, .unset, .unset, .unset, .unset, .unset, .unset, .unset, .unset, .unset, .unset]) rfl ?_, hp⟩
  show ∃ ρ', ex (callF fns (m + 1)) s_commonpath _ = _
  have f0 := fun l => zee h2 m l
  obtain ⟨z5, z9, lp⟩ := zkv (cf := callF fns (m + 1)) (x0 := .val (.tup (L.map fun n => .str (pth r n)))) (x1 := .val (.str [47])) (x2 := .val (.str [46])) (x3 := .val (.list (L.map nD))) (x4 := .val (.bool r)) (y0 := .unset) (y1 := .unset) (y2 := .unset) (y3 := .unset) (y4 := .unset) (x8 := nD s) s t [] .unset .unset (Nat.le_trans (hl s m1) (by decide)) (f1 t m2) fun _ => rfl
  generalize callF fns (m + 1) = cf at *
  have jl : ∀ {n : Nms}, n.length ≤ 1000 → (∀ w ∈ n, w.length ≤ 90) → (joinL [47] n).length ≤ 91000 := fun {n} h1 h2 => Nat.le_trans (zgq n 90 h2) (Nat.mul_le_mul_left 91 h1)
  have jp : (joinL [47] (cp s t)).length ≤ 91000 := jl (Nat.le_trans (zlZ s t) (hl s m1)) fun w h => hw s m1 w ((zlX s t).subset h)
  unfold cmB at lp
  unfold s_commonpath
  have tail : ∃ ρ', ex cf (.seq (.assign 10 (.ite (.var 4) (.var 1) (.op .slice (.cons (.var 1) (.cons (.const .none) (.cons (.const (.int 0)) .nil)))))) (.seq (.ret (.op .add (.cons (.var 10) (.cons (.op .join (.cons (.var 1) (.cons (.var 8) .nil))) .nil)))) .skip)) [.val (.tup (L.map fun n => .str (pth r n))), .val (.str [47]), .val (.str [46]), .val (.list (L.map nD)), .val (.bool r), z5, .val (nD ([] ++ s)), .val (nD ([] ++ t)), .val (nD ([] ++ cp s t)), z9, .unset, .unset, .unset, .unset, .unset] = some (ρ', .ret (.str (pth r (cp s t)))) :=
    have k : opF .add [.str (if r then [47] else []), .str (joinL [47] (cp s t))] = some (.val (.str (pth r (cp s t)))) := by
      cases r
      · exact zdV (Nat.le_trans (Nat.add_le_add_left jp 0) (by decide))
      · exact zdV (Nat.le_trans (Nat.add_le_add_left jp 1) (by decide))
    ⟨_, R_seq (zah (d := .str (if r then [47] else [])) (by cases r <;> rfl) rfl) (zaf (R_seq (R_ret (E_of (V_op2 (V_v rfl rfl) (V_op2 (V_v rfl rfl) (V_v rfl rfl) (o_joins (ls := cp s t) (Nat.le_trans jp (by decide)))) k) rfl)) zam))⟩
  obtain ⟨ρ', tail⟩ := tail
  refine ⟨ρ', R_seq (zah (E_of (zl6 (V_v rfl rfl) rfl fun n _ => f0 _) rfl) rfl) (zaf (R_seq (R_ite (t := false) ?c1 (R_ff zao)) (zaf (R_seq (R_ite (t := false) (T_of (V_op2 (V_op2 (V_v rfl rfl) rfl (zk7 [] h0)) rfl rfl)) (R_ff (R_seq (zah rfl rfl) (zaf (R_seq (zah rfl rfl) (zaf zao)))))) (zaf ?rest)))))⟩
  case rest =>
    have l1 : ∀ n ∈ L, (pth r n).length + 2 ≤ lim := by
      intro n hn
      refine Nat.le_trans (Nat.add_le_add_right (?_ : _ ≤ 91001) 2) (by decide)
      have := jl (hl n hn) (hw n hn)
      cases r
      · exact Nat.le_succ_of_le this
      · exact Nat.succ_le_succ this
    refine R_seq (o := .ret (.str (pth r (cp s t)))) (R_try (R_seq (zah (E_of (zfS (g := fun n => .str (pth r n)) (v := fun n => nD (sp (pth r n))) (zcO (V_v rfl rfl) rfl rfl) fun n hn => ⟨_, V_op2 (V_v rfl rfl) (V_v rfl rfl) (o_split (l1 n hn)), rfl⟩) rfl) rfl) (zaf ?r2))) zam
    refine R_seq (R_try (R_seq (zah (E_of (V_setI (zcO (V_v rfl rfl) rfl rfl) h0 fun n hn => V_op2 (V_v rfl rfl) (V_v rfl rfl) (zi3 (hc n hn))) rfl) rfl) (zaf zao))) (zaf ?_)
    refine R_seq (zah (E_of (zfS (g := fun n => nD (sp (pth r n))) (v := nD) (zcO (V_v rfl rfl) rfl rfl) fun n hn => ⟨_, zlk (hc n hn) rfl (fun _ => rfl) fun _ => rfl, rfl⟩) rfl) rfl) (zaf ?_)
    exact R_seq (zah (E_of (V_op1 (V_v rfl rfl) e1) rfl) rfl) (zaf (R_seq (zah (E_of (V_op1 (V_v rfl rfl) e2) rfl) rfl) (zaf (R_seq (zah (E_of (V_v rfl rfl) rfl) rfl) (zaf (R_seq (zkJ (I_of rfl) lp) (zaf tail)))))))
  case c1 =>
    rw [zcc, zbc, V_v rfl rfl]
    show truthR (Option.map _ (D.tup _).truth) = _
    cases L with
    | nil => exact absurd rfl h0
    | cons a L => rfl
noncomputable abbrev Tx := List Nat
noncomputable def lc : Tx → Tx → Tx
  | x :: a, y :: b => if x = y then x :: lc a b else []
  | _, _ => []
theorem zb1 {x y : Nat} {a b : Tx} : lc (x :: a) (y :: b) = if x = y then x :: lc a b else [] := rfl
theorem zjV : ∀ a : Tx, lc a a = a
  | [] => rfl
  | x :: a => by rw [zb1, if_pos rfl, zjV a]
theorem zbK : ∀ a b : Tx, lc a b <+: a
  | [], _ => List.nil_prefix
  | _ :: _, [] => List.nil_prefix
  | x :: a, y :: b => by
    rw [zb1]
    split
    · exact List.cons_prefix_cons.mpr ⟨rfl, zbK a b⟩
    · exact List.nil_prefix
theorem zco : ∀ a b : Tx, lc a b <+: b
  | [], _ => List.nil_prefix
  | _ :: _, [] => List.nil_prefix
  | x :: a, y :: b => by
    rw [zb1]
    split
    · rename_i h; exact List.cons_prefix_cons.mpr ⟨h, zco a b⟩
    · exact List.nil_prefix
theorem zcM : ∀ {q a b : Tx}, q <+: a → q <+: b → q <+: lc a b
  | [], _, _, _, _ => List.nil_prefix
  | c :: q, [], _, h, _ => absurd (List.prefix_nil.mp h) (List.cons_ne_nil _ _)
  | c :: q, _, [], _, h => absurd (List.prefix_nil.mp h) (List.cons_ne_nil _ _)
  | c :: q, x :: a, y :: b, h1, h2 => by
    obtain ⟨e1, h1⟩ := List.cons_prefix_cons.mp h1
    obtain ⟨e2, h2⟩ := List.cons_prefix_cons.mp h2
    rw [zb1, if_pos (e1 ▸ e2), e1]
    exact List.cons_prefix_cons.mpr ⟨rfl, zcM h1 h2⟩
theorem zeX : ∀ {a b n : Tx}, a ≤ n → n ≤ b → lc a b <+: n
  | [], _, _, _, _ => List.nil_prefix
  | _ :: _, [], _, _, _ => List.nil_prefix
  | x :: a, y :: b, [], h, _ => absurd (List.nil_lt_cons x a) h
  | x :: a, y :: b, z :: n, h1, h2 => by
    rw [zb1]
    by_cases e : x = y
    · subst e
      rw [if_pos rfl]
      rcases List.cons_le_cons_iff.mp h1 with k1 | ⟨e1, k1⟩
      · rcases List.cons_le_cons_iff.mp h2 with k2 | ⟨e2, _⟩
        · exact absurd k1 (Nat.lt_asymm k2)
        · exact absurd k1 (e2 ▸ Nat.lt_irrefl _)
      · rcases List.cons_le_cons_iff.mp h2 with k2 | ⟨_, k2⟩
        · exact absurd k2 (e1 ▸ Nat.lt_irrefl _)
        · exact List.cons_prefix_cons.mpr ⟨e1, zeX k1 k2⟩
    · rw [if_neg e]; exact List.nil_prefix
theorem zjo {a b : Tx} (h : a <+: b) (h2 : b <+: a) : a = b := h.eq_of_length (Nat.le_antisymm h.length_le h2.length_le)
theorem lc_step {a b c : Tx} (h1 : a ≤ b) (h2 : b ≤ c) : lc a c = if (lc b c).length < (lc a b).length then lc b c else lc a b := by
  have hm := zeX h1 h2
  have p1 := zcM (zbK a c) hm
  have p2 := zcM hm (zco a c)
  split
  · rename_i h
    have := List.prefix_of_prefix_length_le (zbK b c) (zco a b) (Nat.le_of_lt h)
    exact zjo p2 (zcM (this.trans (zbK a b)) (zco b c))
  · rename_i h
    have := List.prefix_of_prefix_length_le (zco a b) (zbK b c) (Nat.not_lt.mp h)
    exact zjo p1 (zcM (zbK a b) (this.trans (zco b c)))
noncomputable def sgn : List Nat := [42, 91, 97, 98]
set_option genInjectivity false in
structure PT (t : Tx) : Prop where
  cl : ∀ w ∈ sp t, w ≠ [] ∧ ∀ c ∈ w, c ∈ sgn
  len : t.length ≤ 7
theorem zhB : ∀ c ∈ sgn, c ∈ sg4 ∧ c ≠ 46 ∧ c ≠ 47 := by decide
theorem PT.clean {t : Tx} (h : PT t) : ∀ w ∈ sp t, Clean w := fun w hw => by
  obtain ⟨h0, h1⟩ := h.cl w hw
  exact ⟨h0, zcR w hw, fun e => (zhB 46 (h1 46 (by rw [e]; exact List.mem_cons_self))).2.1 rfl, fun e => (zhB 46 (h1 46 (by rw [e]; exact List.mem_cons_self))).2.1 rfl⟩
theorem PT.sg {t : Tx} (h : PT t) : ∀ c ∈ t, c ∈ sg4 := fun c hc => by
  rw [← zaS t] at hc
  rcases zgo hc with h1 | ⟨w, hw, h1⟩
  · rw [List.mem_singleton.mp h1]; decide
  · exact (zhB c ((h.cl w hw).2 c h1)).1
noncomputable def Hd (h t : Tx) : Prop := t = h ∨ ∃ r, t = h ++ 47 :: r
theorem zi5 (h r : Tx) : sp (h ++ 47 :: r) = sp h ++ sp r := by
  have e := za5 (sp_ne h) (sp_ne r)
  rw [zaS, zaS] at e
  rw [← e]
  exact sp_of (List.append_ne_nil_of_left_ne_nil (sp_ne h) _) fun w hw => (List.mem_append.mp hw).elim (zcR w) (zcR w)
theorem hd_sp {h t : Tx} : Hd h t ↔ sp h <+: sp t := by
  constructor
  · rintro (rfl | ⟨r, rfl⟩)
    · exact List.prefix_refl _
    · rw [zi5]; exact List.prefix_append _ _
  · rintro ⟨c, e⟩
    have e2 := congrArg (joinL [47]) e
    by_cases hc : c = []
    · rw [hc, List.append_nil, zaS, zaS] at e2
      exact .inl e2.symm
    · rw [za5 (sp_ne h) hc, zaS, zaS] at e2
      exact .inr ⟨_, e2.symm⟩
theorem Hd.pre {h t : Tx} (x : Hd h t) : h <+: t := by
  rcases x with rfl | ⟨r, rfl⟩
  · exact List.prefix_refl _
  · exact List.prefix_append _ _
theorem dir_pre {h t : Tx} (x : h <+: t) : (sp h).dropLast <+: sp t := by
  obtain ⟨r, rfl⟩ := x
  obtain ⟨d, y, e⟩ : ∃ d y, sp h = d ++ [y] := ⟨_, _, (List.dropLast_concat_getLast (sp_ne h)).symm⟩
  rw [e, List.dropLast_concat]
  by_cases hd : d = []
  · rw [hd]; exact List.nil_prefix
  · have e2 : h = joinL [47] d ++ 47 :: y := by rw [← zaS h, e, za5 hd (List.cons_ne_nil _ _)]; rfl
    rw [e2, List.append_assoc, List.cons_append, zi5, sp_of hd fun w hw => zcR w (e ▸ List.mem_append_left _ hw)]
    exact List.prefix_append _ _
theorem cp_ends {S : List Tx} {a b : Tx} (ha : a ∈ S) (hb : b ∈ S) (h : ∀ t ∈ S, Hd (lc a b) t) : IsCp (S.map sp) (sp (lc a b)) := by
  refine ⟨fun n hn => ?_, fun q hq => ?_⟩
  · obtain ⟨t, ht, rfl⟩ := List.mem_map.mp hn
    exact hd_sp.mp (h t ht)
  · have : a = lc a b ∨ b = lc a b := by
      rcases h a ha with e | ⟨r, e⟩
      · exact .inl e
      · rcases h b hb with e2 | ⟨r2, e2⟩
        · exact .inr e2
        · have := zcM (q := lc a b ++ [47]) (a := a) (b := b) ⟨r, by rw [List.append_assoc]; exact e.symm⟩ ⟨r2, by rw [List.append_assoc]; exact e2.symm⟩
          have := this.length_le
          rw [List.length_append] at this
          exact absurd this (Nat.not_succ_le_self _)
    rcases this with e | e
    · exact e ▸ hq _ (List.mem_map_of_mem ha)
    · exact e ▸ hq _ (List.mem_map_of_mem hb)
theorem cp_not {S : List Tx} {a b : Tx} (ha : a ∈ S) (hb : b ∈ S) (hp : ∀ t ∈ S, lc a b <+: t) (h : ¬ ∀ t ∈ S, Hd (lc a b) t) : IsCp (S.map sp) (sp (lc a b)).dropLast := by
  refine ⟨fun n hn => ?_, fun q hq => ?_⟩
  · obtain ⟨t, ht, rfl⟩ := List.mem_map.mp hn
    exact dir_pre (hp t ht)
  · by_cases h0 : q = []
    · rw [h0]; exact List.nil_prefix
    have hqa := hq _ (List.mem_map_of_mem ha)
    have e : sp (joinL [47] q) = q := sp_of h0 fun w hw => zcR w (hqa.subset hw)
    have hall : ∀ t ∈ S, Hd (joinL [47] q) t := fun t ht => hd_sp.mpr (e.symm ▸ hq _ (List.mem_map_of_mem ht))
    obtain ⟨r, e2⟩ := zcM (hall a ha).pre (hall b hb).pre
    cases r with
    | nil =>
      rw [List.append_nil] at e2
      exact absurd (e2 ▸ hall) h
    | cons c r =>
      obtain ⟨r', e3⟩ := zbK a b
      rw [← e2, List.append_assoc, List.cons_append] at e3
      have hc : c = 47 := by
        rcases hall a ha with e4 | ⟨r4, e4⟩
        · rw [e4] at e3
          exact absurd (List.append_right_eq_self.mp e3) (List.cons_ne_nil _ _)
        · rw [e4] at e3
          exact (List.cons.inj (List.append_cancel_left e3)).1
      rw [← e2, hc, zi5, e, List.dropLast_append_of_ne_nil (sp_ne r)]
      exact List.prefix_append _ _
noncomputable def cd (c : Nat) : Nat := [97, 98, 47, 42, 91].idxOf c
noncomputable def tq (t : List Nat) : List Nat := t.map cd
theorem cd4 : ∀ c ∈ sg4, cd c < 5 ∧ aC (cd c) = [c] := by decide
theorem tq_lt {t : List Nat} (h : ∀ c ∈ t, c ∈ sg4) : ∀ k ∈ tq t, k < 6 := fun k hk => by
  obtain ⟨c, hc, rfl⟩ := List.mem_map.mp hk
  exact Nat.lt_trans (cd4 c (h c hc)).1 (by decide)
theorem mt_tq : ∀ {t ks w : List Nat}, (∀ c ∈ t, c ∈ sg4) → (Mt (tq t ++ ks) w ↔ ∃ r, w = t ++ r ∧ Mt ks r)
  | [], ks, w, _ => ⟨fun h => ⟨w, rfl, h⟩, fun ⟨r, e, h⟩ => e ▸ h⟩
  | c :: t, ks, w, h => by
    obtain ⟨h1, h2⟩ := cd4 c (h c List.mem_cons_self)
    have ih := fun w => mt_tq (t := t) (ks := ks) (w := w) fun d hd => h d (List.mem_cons_of_mem _ hd)
    show Mt (cd c :: (tq t ++ ks)) w ↔ _
    rw [Mt.one_iff (Nat.ne_of_lt h1), h2]
    constructor
    · rintro ⟨d, v, rfl, hd, hm⟩
      obtain ⟨r, rfl, hr⟩ := (ih v).mp hm
      rw [List.mem_singleton.mp hd]
      exact ⟨r, rfl, hr⟩
    · rintro ⟨r, rfl, hr⟩
      exact ⟨c, t ++ r, rfl, List.mem_singleton.mpr rfl, (ih _).mpr ⟨r, rfl, hr⟩⟩
theorem mt_head {t w : List Nat} (h : ∀ c ∈ t, c ∈ sg4) : Mt (tq t ++ [5]) w ↔ t <+: w := by
  rw [mt_tq h]
  constructor
  · rintro ⟨r, rfl, _⟩
    exact List.prefix_append _ _
  · rintro ⟨r, rfl⟩
    refine ⟨_, rfl, ?_⟩
    have := Mt.star (as := []) (u := r) (v := []) .nil
    rwa [List.append_nil] at this
theorem joinG {α : Type} (f : α → List Nat) : ∀ l : List α, joinL [] (l.map f) = l.flatMap f
  | [] => rfl
  | [a] => (List.append_nil _).symm
  | a :: b :: l => by
    show f a ++ [] ++ joinL [] ((b :: l).map f) = f a ++ (b :: l).flatMap f
    rw [joinG f (b :: l), List.append_nil]
theorem o_joinG {α : Type} {f : α → List Nat} {l : List α} (h : (l.flatMap f).length ≤ lim) : opF .join [.str [], .list (l.map fun a => .str (f a))] = some (.val (.str (l.flatMap f))) := by
  show (match toStrs (l.map fun a => .str (f a)) with
    | some ls => if (joinL [] ls).length ≤ lim then some (R.val (.str (joinL [] ls))) else none
    | none => none) = _
  have e : toStrs (l.map fun a => .str (f a)) = some (l.map f) := by
    have := zcu (l.map f)
    rwa [List.map_map] at this
  rw [e]
  simp only [joinG]
  rw [if_pos h]
theorem qt4 (cf : CfT) (x : Slot) : sg4.map (fun c => ev cf (.ite (.op .in_ (.cons (.var 1) (.cons (.const (.str [42, 63, 91])) .nil))) (.op .add (.cons (.op .add (.cons (.const (.str [91])) (.cons (.var 1) .nil))) (.cons (.const (.str [93])) .nil))) (.var 1)) [x, .val (.str [c])]) = sg4.map fun c => some [.val (.str (aT (cd c)))] := by kernel_rfl
theorem quoted4 (m : Nat) {t : List Nat} (h : ∀ c ∈ t, c ∈ sg4) (hl : t.length ≤ 50) : callF fns04 (m + 1) 26 [.str t] = some (.str (tx (tq t))) := by
  refine zcs (fn := fn_law_quoted) rfl (ρ := [.val (.str t), .unset]) rfl ?_
  show ∃ ρ', ex (callF fns04 m) s_law_quoted _ = _
  have hx := ziS (tq_lt h)
  have e : tx (tq t) = t.flatMap fun c => aT (cd c) := List.flatMap_map ..
  rw [e] at hx ⊢
  unfold s_law_quoted
  exact ⟨_, R_seq (R_ret (E_of (V_op2 rfl (zfS (g := fun c => .str [c]) (l := t) (v := fun c => .str (aT (cd c))) (zcO (d := .str t) rfl rfl rfl) fun c hc => ⟨_, ze6 (qt4 _ _) (h c hc), rfl⟩) (o_joinG (f := fun c => aT (cd c)) (Nat.le_trans hx (Nat.le_trans (Nat.mul_le_mul_left 6 (by unfold tq; rw [List.length_map]; exact hl)) (by decide))))) rfl)) zam⟩
noncomputable def alC : X := (.and (.op .lt (.cons (.var 2) (.cons (.op .len (.cons (.var 0) .nil)) .nil))) (.op .eq (.cons (.op .slice (.cons (.var 0) (.cons (.var 2) (.cons (.op .add (.cons (.var 2) (.cons (.const (.int 1)) .nil))) .nil)))) (.cons (.op .slice (.cons (.var 1) (.cons (.var 2) (.cons (.op .add (.cons (.var 2) (.cons (.const (.int 1)) .nil))) .nil)))) .nil))))
noncomputable def alB : S := (.seq (.assign 2 (.op .add (.cons (.var 2) (.cons (.const (.int 1)) .nil)))) .skip)
theorem zcU {l : List Nat} : opF .len [.str l] = some (.val (nI l.length)) := rfl
theorem o_ltn {m n : Nat} : opF .lt [nI m, nI n] = some (.val (.bool (decide (m < n)))) := by
  show some (R.val (.bool (decide ((m : Int) < (n : Int))))) = _
  rw [decide_eq_decide.mpr Int.ofNat_lt]
theorem o_slsN {l : List Nat} {a b : Nat} (ha : a ≤ 1000000) (hb : b ≤ 1000000) : opF .slice [.str l, .int (a : Int), .int (b : Int)] = some (.val (.str (cut l (clip (a : Int) l.length) (clip (b : Int) l.length)))) := by
  show (match bound (.int (a : Int)) 0 l.length, bound (.int (b : Int)) l.length l.length with
    | some lo, some hi => some (R.val (.str (cut l lo hi)))
    | _, _ => none) = _
  have e : ∀ {k : Nat} {d : Nat}, k ≤ 1000000 → bound (.int (k : Int)) d l.length = some (clip (k : Int) l.length) := fun {k d} h => by
    show (if small (k : Int) = true then some (clip (k : Int) l.length) else none) = _
    rw [if_pos (zaF h)]
  rw [e ha, e hb]
theorem zjy {p u : List Nat} (h : p.length ≤ 100) : opF .slice [.str (p ++ u), nI p.length, nI (p.length + 1)] = some (.val (.str (u.take 1))) := by
  have h1 : p.length ≤ 1000000 := Nat.le_trans h (by decide)
  have h2 : p.length + 1 ≤ 1000000 := Nat.le_trans (Nat.succ_le_succ h) (by decide)
  refine (o_slsN (l := p ++ u) h1 h2).trans (congrArg (fun l => some (R.val (.str l))) ?_)
  rw [zb5 (by rw [List.length_append]; exact Nat.le_add_right _ _)]
  unfold cut
  cases u with
  | nil => rw [List.append_nil, List.drop_of_length_le (Nat.le_refl _), List.take_nil]; rfl
  | cons x u =>
    rw [zb5 (by rw [List.length_append]; exact Nat.add_le_add_left (Nat.succ_le_succ (Nat.zero_le _)) _), Nat.add_sub_cancel_left, List.drop_left' rfl]
section
variable {cf : CfT}
theorem zl5 {p u v : List Nat} (hp : p.length ≤ 100) : evT cf alC [.val (.str (p ++ u)), .val (.str (p ++ v)), .val (nI p.length)] = some (decide (p.length < (p ++ u).length) && decide (u.take 1 = v.take 1)) := by
  unfold alC
  have s : opF .add [nI p.length, .int 1] = some (.val (nI (p.length + 1))) := rfl
  exact T_of (V_and (V_op2 (V_v rfl rfl) (V_op1 (V_v rfl rfl) zcU) o_ltn) fun _ => V_op2 (V_op3 (V_v rfl rfl) (V_v rfl rfl) (V_op2 (V_v rfl rfl) rfl s) (zjy hp)) (V_op3 (V_v rfl rfl) (V_v rfl rfl) (V_op2 (V_v rfl rfl) rfl s) (zjy hp)) (eq_str _ _))
theorem zh6 : ∀ (u v p : List Nat) (fuel : Nat), (p ++ u).length ≤ 100 → u.length ≤ fuel →
    whileGo (evT cf alC) (ex cf alB) (fuel + 1) [.val (.str (p ++ u)), .val (.str (p ++ v)), .val (nI p.length)] = some ([.val (.str (p ++ u)), .val (.str (p ++ v)), .val (nI (p ++ lc u v).length)], .next)
  | [], v, p, fuel, hl, _ => by
    have c := zl5 (cf := cf) (p := p) (u := []) (v := v) (by rw [List.append_nil] at hl; exact hl)
    rw [List.append_nil, decide_eq_false (Nat.lt_irrefl _), Bool.false_and] at c
    rw [show lc [] v = [] from rfl, List.append_nil]
    exact zaG (t := false) c zbF
  | x :: u, v, p, fuel, hl, hf => by
    have hp : p.length ≤ 100 := Nat.le_trans (by rw [List.length_append]; exact Nat.le_add_right _ _) hl
    have c := zl5 (cf := cf) (u := x :: u) (v := v) hp
    rw [decide_eq_true (by rw [List.length_append]; exact Nat.lt_add_of_pos_right (Nat.succ_pos _)), Bool.true_and] at c
    have stop : [x] ≠ v.take 1 → lc (x :: u) v = [] → whileGo (evT cf alC) (ex cf alB) (fuel + 1) [.val (.str (p ++ x :: u)), .val (.str (p ++ v)), .val (nI p.length)] = some ([.val (.str (p ++ x :: u)), .val (.str (p ++ v)), .val (nI (p ++ lc (x :: u) v).length)], .next) := fun h1 h2 => by
      rw [show (x :: u).take 1 = [x] from rfl, decide_eq_false h1] at c
      rw [h2, List.append_nil]
      exact zaG (t := false) c zbF
    cases v with
    | nil => exact stop (fun h => nomatch h) rfl
    | cons y v =>
      by_cases h : x = y
      · subst h
        rw [decide_eq_true (show (x :: u).take 1 = (x :: v).take 1 from rfl)] at c
        cases fuel with
        | zero => cases hf
        | succ fuel =>
          have := zh6 u v (p ++ [x]) fuel (by rw [List.append_assoc]; exact hl) (Nat.le_of_succ_le_succ hf)
          rw [List.append_assoc, List.append_assoc, List.append_assoc, List.length_append (as := p) (bs := [x])] at this
          rw [zb1, if_pos rfl]
          refine zaG (t := true) c (R_wGo ?_ (zb8 this))
          unfold alB
          exact R_seq (zah (E_of (V_op2 (V_v rfl rfl) rfl rfl) rfl) rfl) (zaf zao)
      · exact stop (fun e => h (List.cons.inj e).1) (if_neg h)
end
theorem alike4 (m : Nat) {a b : List Nat} (ha : a.length ≤ 100) : callF fns04 (m + 1) 27 [.str a, .str b] = some (.str (lc a b)) := by
  refine zcs (fn := fn_law_alike) rfl (ρ := [.val (.str a), .val (.str b), .unset]) rfl ?_
  show ∃ ρ', ex (callF fns04 m) s_law_alike _ = _
  have w := zh6 (cf := callF fns04 m) a b [] 99999 ha (Nat.le_trans ha (by decide))
  unfold alC alB at w
  unfold s_law_alike
  have s : opF .slice [.str a, .none, nI (lc a b).length] = some (.val (.str (lc a b))) := by
    obtain ⟨r, e⟩ := zbK a b
    have := o_to (x := lc a b) (y := r) (Nat.le_trans (zbK a b).length_le (Nat.le_trans ha (by decide)))
    rw [e] at this
    exact this
  exact ⟨_, R_seq (zah rfl rfl) (zaf (R_seq (zb7 w) (zaf (R_seq (R_ret (E_of (V_op3 (V_v rfl rfl) rfl (V_v rfl rfl) s) rfl)) zam))))⟩
noncomputable def drC : X := (.and (.op .gt (.cons (.var 2) (.cons (.const (.int 0)) .nil))) (.op .lt (.cons (.op .len (.cons (.var 1) .nil)) (.cons (.const (.int 7)) .nil))))
noncomputable def drB : S := (.seq (.assign 3 (.op .index (.cons (.const (.str [97, 98, 42, 91, 47])) (.cons (.op .mod (.cons (.var 2) (.cons (.const (.int 5)) .nil))) .nil)))) (.seq (.ite (.or (.op .ne (.cons (.var 3) (.cons (.const (.str [47])) .nil))) (.and (.op .ne (.cons (.var 1) (.cons (.const (.str [])) .nil))) (.op .ne (.cons (.op .index (.cons (.var 1) (.cons (.op .neg (.cons (.const (.int 1)) .nil)) .nil))) (.cons (.const (.str [47])) .nil))))) (.seq (.assign 1 (.op .add (.cons (.var 1) (.cons (.var 3) .nil)))) .skip) .skip) (.seq (.assign 2 (.op .fdiv (.cons (.var 2) (.cons (.const (.int 5)) .nil)))) .skip)))
set_option genInjectivity false in
structure DO (d : Nms) (w : Tx) : Prop where
  cl : ∀ v ∈ d, v ≠ [] ∧ ∀ c ∈ v, c ∈ sgn
  la : ∀ c ∈ w, c ∈ sgn
theorem zlU (d : Nms) : ∃ p, ∀ w, joinL [47] (d ++ [w]) = p ++ w := by
  by_cases h : d = []
  · exact ⟨[], fun w => by rw [h]; rfl⟩
  · exact ⟨joinL [47] d ++ [47], fun w => by rw [za5 h (List.cons_ne_nil _ _), List.append_assoc]; rfl⟩
theorem zi9 {w : Tx} (h : w ≠ []) : ∃ v e, w = v ++ [e] := ⟨_, _, (List.dropLast_concat_getLast h).symm⟩
theorem sgn47 {c : Nat} (h : c ∈ sgn) : c ≠ 47 := (zhB c h).2.2
section
variable {cf : CfT} {ρ : List Slot} {x0 x3 : Slot}
theorem V_or_tt {x y : X} (h1 : ev cf x ρ = some [.val (.bool true)]) : ev cf (.or x y) ρ = some [.val (.bool true)] := by rw [zbD, h1]; rfl
theorem V_orS {x y : X} {t u : List Nat} (h1 : ev cf x ρ = some [.val (.str t)]) (h2 : ev cf y ρ = some [.val (.str u)]) : ev cf (.or x y) ρ = some [.val (.str (if t = [] then u else t))] := by
  rw [zbD, h1]
  cases t with
  | nil => exact h2
  | cons c t => rfl
theorem dr_turn {d : Nms} {w : Tx} {l : Nat} (h : DO d w) (hl : (joinL [47] (d ++ [w])).length < 7) : ∃ d' w' y, ex cf drB [x0, .val (.str (joinL [47] (d ++ [w]))), .val (nI l), x3] = some ([x0, .val (.str (joinL [47] (d' ++ [w']))), .val (nI (l / 5)), y], .next) ∧ DO d' w' ∧ (joinL [47] (d' ++ [w'])).length ≤ 7 := by
  have hk : l % 5 < 5 := Nat.mod_lt _ (by decide)
  have h1 : opF .index [.str [97, 98, 42, 91, 47], nI (l % 5)] = some (.val (.str [([97, 98, 42, 91, 47] : List Nat).getD (l % 5) 0])) := zfs hk (by decide)
  have hm : ([97, 98, 42, 91, 47] : List Nat).getD (l % 5) 0 ∈ [97, 98, 42, 91, 47] := zfG hk 0
  generalize ([97, 98, 42, 91, 47] : List Nat).getD (l % 5) 0 = c at h1 hm
  have a1 : ∀ o, ev1 cf (.op .index (.cons (.const (.str [97, 98, 42, 91, 47])) (.cons (.op .mod (.cons (.var 2) (.cons (.const (.int 5)) .nil))) .nil))) [x0, o, .val (nI l), x3] = some (.str [c]) := fun o => E_of (V_op2 rfl (V_op2 (V_v rfl rfl) rfl (o_mod (n := l) (k := 5) (by decide))) h1) rfl
  have a2 : ∀ o y, ev1 cf (.op .fdiv (.cons (.var 2) (.cons (.const (.int 5)) .nil))) [x0, o, .val (nI l), y] = some (nI (l / 5)) := fun o y => E_of (V_op2 (V_v rfl rfl) rfl (o_div (n := l) (k := 5) (by decide))) rfl
  obtain ⟨p, ep⟩ := zlU d
  have app : ∀ c, opF .add [.str (joinL [47] (d ++ [w])), .str [c]] = some (.val (.str (joinL [47] (d ++ [w]) ++ [c]))) := fun c => zdV (Nat.le_trans (Nat.add_le_add_right (Nat.le_of_lt hl) 1) (by decide))
  have hl1 : ∀ c, (joinL [47] (d ++ [w]) ++ [c]).length ≤ 7 := fun c => by rw [List.length_append]; exact hl
  by_cases hc : c = 47
  · subst hc
    have n1 : opF .ne [.str [47], .str [47]] = some (.val (.bool false)) := rfl
    by_cases hw : w = []
    · refine ⟨d, w, .val (.str [47]), ?_, h, Nat.le_of_lt hl⟩
      have t : evT cf (.or (.op .ne (.cons (.var 3) (.cons (.const (.str [47])) .nil))) (.and (.op .ne (.cons (.var 1) (.cons (.const (.str [])) .nil))) (.op .ne (.cons (.op .index (.cons (.var 1) (.cons (.op .neg (.cons (.const (.int 1)) .nil)) .nil))) (.cons (.const (.str [47])) .nil))))) [x0, .val (.str (joinL [47] (d ++ [w]))), .val (nI l), .val (.str [47])] = some false := by
        have e : joinL [47] (d ++ [w]) = p := by rw [ep, hw, List.append_nil]
        by_cases hd : d = []
        · rw [hd, hw]; rfl
        · have e2 : joinL [47] (d ++ [w]) = joinL [47] d ++ [47] := by rw [hw, za5 hd (List.cons_ne_nil _ _)]; rfl
          rw [e2]
          refine T_of (V_or (V_op2 (V_v rfl rfl) rfl n1) (V_and (p := !decide (joinL [47] d ++ [47] = [])) (q := false) (V_op2 (V_v rfl rfl) rfl (ne_str _ _)) fun _ => V_op2 (V_op2 (V_v rfl rfl) rfl zgc) rfl n1)) |>.trans ?_
          rw [Bool.and_false]; rfl
      unfold drB
      exact R_seq (zah (a1 _) rfl) (zaf (R_seq (R_ite t (R_ff zao)) (zaf (R_seq (zah (a2 _ _) rfl) (zaf zao)))))
    · have e3 : joinL [47] (d ++ [w]) ++ [47] = joinL [47] ((d ++ [w]) ++ [[]]) := by rw [za5 (List.append_ne_nil_of_right_ne_nil _ (List.cons_ne_nil _ _)) (List.cons_ne_nil _ _)]; rfl
      refine ⟨d ++ [w], [], .val (.str [47]), ?_, ⟨fun v hv => ?_, fun _ h => nomatch h⟩, e3 ▸ hl1 47⟩
      · have t : evT cf (.or (.op .ne (.cons (.var 3) (.cons (.const (.str [47])) .nil))) (.and (.op .ne (.cons (.var 1) (.cons (.const (.str [])) .nil))) (.op .ne (.cons (.op .index (.cons (.var 1) (.cons (.op .neg (.cons (.const (.int 1)) .nil)) .nil))) (.cons (.const (.str [47])) .nil))))) [x0, .val (.str (joinL [47] (d ++ [w]))), .val (nI l), .val (.str [47])] = some true := by
          obtain ⟨v, e, rfl⟩ := zi9 hw
          have he : e ≠ 47 := sgn47 (h.la e (List.mem_append_right _ List.mem_cons_self))
          rw [ep, ← List.append_assoc]
          refine T_of (V_or (p := false) (q := true) (V_op2 (V_v rfl rfl) rfl n1) (V_and (p := true) (q := true) (V_op2 (V_v rfl rfl) rfl ((ne_str _ _).trans ?_)) fun _ => V_op2 (V_op2 (V_v rfl rfl) rfl zgc) rfl ((ne_str _ _).trans ?_)))
          · rw [decide_eq_false (List.append_ne_nil_of_right_ne_nil _ (List.cons_ne_nil _ _))]; rfl
          · rw [decide_eq_false fun q => he (List.cons.inj q).1]; rfl
        rw [← e3]
        unfold drB
        exact R_seq (zah (a1 _) rfl) (zaf (R_seq (R_ite t (R_tt (R_seq (zah (E_of (V_op2 (V_v rfl rfl) (V_v rfl rfl) (app 47)) rfl) rfl) (zaf zao)))) (zaf (R_seq (zah (a2 _ _) rfl) (zaf zao)))))
      · rcases List.mem_append.mp hv with hv | hv
        · exact h.cl v hv
        · rw [List.mem_singleton.mp hv]; exact ⟨hw, h.la⟩
  · have e3 : joinL [47] (d ++ [w]) ++ [c] = joinL [47] (d ++ [w ++ [c]]) := by rw [ep, ep, List.append_assoc]
    refine ⟨d, w ++ [c], .val (.str [c]), ?_, ⟨h.cl, fun e he => ?_⟩, e3 ▸ hl1 c⟩
    · have t : evT cf (.or (.op .ne (.cons (.var 3) (.cons (.const (.str [47])) .nil))) (.and (.op .ne (.cons (.var 1) (.cons (.const (.str [])) .nil))) (.op .ne (.cons (.op .index (.cons (.var 1) (.cons (.op .neg (.cons (.const (.int 1)) .nil)) .nil))) (.cons (.const (.str [47])) .nil))))) [x0, .val (.str (joinL [47] (d ++ [w]))), .val (nI l), .val (.str [c])] = some true :=
        T_of (V_or_tt (V_op2 (V_v rfl rfl) rfl ((ne_str [c] [47]).trans (by rw [decide_eq_false fun q => hc (List.cons.inj q).1]; rfl))))
      rw [← e3]
      unfold drB
      exact R_seq (zah (a1 _) rfl) (zaf (R_seq (R_ite t (R_tt (R_seq (zah (E_of (V_op2 (V_v rfl rfl) (V_v rfl rfl) (app c)) rfl) rfl) (zaf zao)))) (zaf (R_seq (zah (a2 _ _) rfl) (zaf zao)))))
    · rcases List.mem_append.mp he with he | he
      · exact h.la e he
      · rw [List.mem_singleton.mp he]
        exact (show ∀ c ∈ [97, 98, 42, 91, 47], c ≠ 47 → c ∈ sgn by decide) c hm hc
theorem dr_loop : ∀ (k fuel : Nat) {d : Nms} {w : Tx} {l : Nat} {x3 : Slot}, l < 5 ^ k → k ≤ fuel → DO d w → (joinL [47] (d ++ [w])).length ≤ 7 → ∃ d' w' l' y, whileGo (evT cf drC) (ex cf drB) (fuel + 1) [x0, .val (.str (joinL [47] (d ++ [w]))), .val (nI l), x3] = some ([x0, .val (.str (joinL [47] (d' ++ [w']))), .val (nI l'), y], .next) ∧ DO d' w' ∧ (joinL [47] (d' ++ [w'])).length ≤ 7 := by
  intro k
  induction k with
  | zero =>
    intro fuel d w l x3 hlt _ h hl
    refine ⟨d, w, l, x3, zaG (t := false) ?_ zbF, h, hl⟩
    have : l = 0 := Nat.lt_one_iff.mp hlt
    unfold drC
    exact T_of (zh8 (V_op2 (V_v rfl rfl) rfl (by rw [this]; rfl)))
  | succ k ih =>
    intro fuel d w l x3 hlt hf h hl
    have c : evT cf drC [x0, .val (.str (joinL [47] (d ++ [w]))), .val (nI l), x3] = some (decide (0 < l) && decide ((joinL [47] (d ++ [w])).length < 7)) := by
      unfold drC
      exact T_of (V_and (V_op2 (V_v rfl rfl) rfl (o_gt0 (n := l))) fun _ => V_op2 (V_op1 (V_v rfl rfl) zcU) rfl (o_ltn (n := 7)))
    cases e : decide (0 < l) && decide ((joinL [47] (d ++ [w])).length < 7) with
    | false =>
      rw [e] at c
      exact ⟨d, w, l, x3, zaG (t := false) c zbF, h, hl⟩
    | true =>
      rw [e] at c
      have hl7 := of_decide_eq_true ((Bool.and_eq_true _ _).mp e).2
      cases fuel with
      | zero => cases hf
      | succ fuel =>
        obtain ⟨d1, w1, y1, e1, h1, hl1⟩ := dr_turn (cf := cf) (x0 := x0) (x3 := x3) (l := l) h hl7
        obtain ⟨d2, w2, l2, y2, e2, h2⟩ := ih fuel (l := l / 5) (x3 := y1) (Nat.div_lt_of_lt_mul (by rw [Nat.mul_comm, ← Nat.pow_succ]; exact hlt)) (Nat.le_of_succ_le_succ hf) h1 hl1
        exact ⟨d2, w2, l2, y2, zaG (t := true) c (R_wGo e1 (zb8 e2)), h2⟩
end
theorem PT.of {ns : Nms} (h0 : ns ≠ []) (h : ∀ v ∈ ns, v ≠ [] ∧ ∀ c ∈ v, c ∈ sgn) (hl : (joinL [47] ns).length ≤ 7) : PT (joinL [47] ns) :=
  ⟨by rw [sp_of h0 fun w hw q => sgn47 ((h w hw).2 47 q) rfl]; exact h, hl⟩
theorem zi1 {d : Nms} {w : Tx} (h : DO d w) (hl : (joinL [47] (d ++ [w])).length ≤ 7) : ∃ t u, opF .rstrip [.str (joinL [47] (d ++ [w])), .str [47]] = some (.val (.str u)) ∧ (if u = [] then [97] else u) = t ∧ PT t := by
  obtain ⟨p, ep⟩ := zlU d
  by_cases hw : w = []
  · subst hw
    by_cases hd : d = []
    · subst hd
      exact ⟨[97], [], rfl, rfl, PT.of (ns := [[97]]) (List.cons_ne_nil _ _) (by decide) (by decide)⟩
    · have e2 : joinL [47] (d ++ [[]]) = joinL [47] d ++ [47] := by rw [za5 hd (List.cons_ne_nil _ _)]; rfl
      have nm : ∀ v ∈ d, NameOK v := fun v hv => ⟨(h.cl v hv).1, fun q => sgn47 ((h.cl v hv).2 47 q) rfl⟩
      obtain ⟨t, c, e3, hc⟩ := zgs hd nm
      rw [e2, List.length_append] at hl
      refine ⟨_, _, ?_, if_neg (zlm hd nm), PT.of hd h.cl (Nat.le_of_succ_le hl)⟩
      rw [e2, zft, List.reverse_append, List.reverse_singleton, List.singleton_append, List.dropWhile_cons_of_pos rfl, e3, zkq hc]
  · obtain ⟨v, e, rfl⟩ := zi9 hw
    have he : e ≠ 47 := sgn47 (h.la e (List.mem_append_right _ List.mem_cons_self))
    have hn : joinL [47] (d ++ [v ++ [e]]) ≠ [] := by rw [ep]; exact List.append_ne_nil_of_right_ne_nil _ hw
    refine ⟨_, _, ?_, if_neg hn, PT.of (List.append_ne_nil_of_right_ne_nil _ (List.cons_ne_nil _ _)) (fun x hx => ?_) hl⟩
    · rw [ep, ← List.append_assoc, zft, zkq he]
    · rcases List.mem_append.mp hx with hx | hx
      · exact h.cl x hx
      · rw [List.mem_singleton.mp hx]; exact ⟨hw, h.la⟩
theorem o_pown {a b : Nat} (ha : a ≤ 16) (hb : b ≤ 64) : opF .pow [.int (a : Int), .int (b : Int)] = some (.val (.int ((a ^ b : Nat) : Int))) := by
  show (if 0 ≤ (b : Int) ∧ (b : Int) ≤ 64 ∧ 0 ≤ (a : Int) ∧ (a : Int) ≤ 16 then some (R.val (.int ((a : Int) ^ (b : Int).toNat))) else none) = _
  rw [if_pos ⟨Int.natCast_nonneg b, Int.ofNat_le.mpr hb, Int.natCast_nonneg a, Int.ofNat_le.mpr ha⟩, Int.toNat_natCast, Int.natCast_pow]
theorem drawn4 (m l : Nat) : ∃ t, callF fns04 (m + 1) 18 [nI l] = some (.str t) ∧ PT t := by
  obtain ⟨n, hn, h40⟩ : ∃ n : Nat, opF .pow [.int 5, .int 40] = some (.val (nI n)) ∧ n = 5 ^ 40 := ⟨_, o_pown (a := 5) (b := 40) (by decide) (by decide), rfl⟩
  have hn0 : 0 < n := h40 ▸ Nat.pow_pos (by decide)
  obtain ⟨d, w, l', y, e, h, hl⟩ := dr_loop (cf := callF fns04 m) (x0 := .val (nI l)) 40 99999 (d := []) (w := []) (l := l % n) (x3 := .unset) (h40 ▸ Nat.mod_lt _ (h40 ▸ hn0)) (by decide) ⟨fun _ h => (nomatch h), fun _ h => nomatch h⟩ (by decide)
  obtain ⟨t, u, e2, e3, ht⟩ := zi1 h hl
  have md : opF .mod [nI l, nI n] = some (.val (nI (l % n))) := o_mod (Nat.ne_of_gt hn0)
  clear h40
  refine ⟨t, zcs (fn := fn_law_drawn) rfl (ρ := [.val (nI l), .unset, .unset, .unset]) rfl ?_, ht⟩
  show ∃ ρ', ex (callF fns04 m) s_law_drawn _ = _
  unfold drC drB at e
  unfold s_law_drawn
  exact ⟨_, R_seq (zah (d := .str []) rfl rfl) (zaf (R_seq (zah (E_of (V_op2 (V_v rfl rfl) (V_op2 rfl rfl hn) md) rfl) rfl) (zaf (R_seq (zb7 e) (zaf (R_seq (R_ret (E_of (V_orS (V_op2 (V_v rfl rfl) rfl e2) rfl) (by rw [← e3]; rfl))) zam))))))⟩
noncomputable def ctB : S := (.seq (.ite (.op .ne (.cons (.var 4) (.cons (.op .index (.cons (.var 2) (.cons (.var 3) .nil))) .nil))) (.seq (.ret (.op .slice (.cons (.var 1) (.cons (.const .none) (.cons (.var 3) .nil))))) .skip) .skip) .skip)
theorem ordT : Ord D.str ltL ltD := ⟨zea, zfB, fun _ => zhf, fun _ _ => rfl⟩
theorem ordTG : Ord D.str (fun a b => ltL b a) gtD := ⟨fun h h2 => zea h2 h, fun h h2 => zfB h2 h, fun _ => zhf, fun _ _ => rfl⟩
theorem zl4 {lt : Tx → Tx → Bool} {better : D → D → Option Bool} (O : Ord D.str lt better) {L : List Tx} {a : Tx} (ha : a ∈ L) (h : ∀ n ∈ L, lt n a = false) : opBest better [.tup (L.map .str)] = some (.val (.str a)) := by
  cases L with
  | nil => cases ha
  | cons x L =>
    obtain ⟨s, e, hs, h2⟩ := zem O (l := L) (a := x)
    have : s = a := O.tot (h s hs) (h2 a ha)
    show (bestGo better (.str x) (L.map .str)).map R.val = _
    rw [e, this]; rfl
theorem zlT {a b : Tx} (h : a ≤ b) : ltL b a = false := decide_eq_false h
inductive CpT (s1 p u v : Tx) (x0 : Slot) (s2 : Tx) : Option (List Slot × Out) → Prop
  | ret {ρ' : List Slot} : CpT s1 p u v x0 s2 (some (ρ', .ret (.str (p ++ lc u v))))
  | all {x3 x4 : Slot} : lc u v = u → CpT s1 p u v x0 s2 (some ([x0, .val (.str s1), .val (.str s2), x3, x4], .next))
section
variable {cf : CfT} {x0 : Slot}
theorem zkr : ∀ (u v p : Tx) (x3 x4 : Slot), (p ++ v).length ≤ 100 → u ≤ v → CpT (p ++ u) p u v x0 (p ++ v) (forGo (put2 3 4) (ex cf ctB) (enumL (p.length : Int) (u.map fun c => .str [c])) [x0, .val (.str (p ++ u)), .val (.str (p ++ v)), x3, x4])
  | [], v, p, x3, x4, _, _ => .all rfl
  | c :: u, [], p, x3, x4, _, h => absurd (List.nil_lt_cons c u) h
  | c :: u, d :: v, p, x3, x4, hl, hlt => by
    have hp : p.length < (p ++ d :: v).length := by rw [List.length_append]; exact Nat.lt_add_of_pos_right (Nat.succ_pos _)
    have h1 : opF .index [.str (p ++ d :: v), .int (p.length : Int)] = some (.val (.str [d])) := by
      have := zfs hp hl
      rw [List.getD_eq_getElem?_getD, List.getElem?_append_right (Nat.le_refl _), Nat.sub_self] at this
      exact this
    have h2 := ne_str [c] [d]
    have h3 : opF .slice [.str (p ++ c :: u), .none, .int (p.length : Int)] = some (.val (.str p)) := o_to (Nat.le_trans (Nat.le_of_lt hp) (Nat.le_trans hl (by decide)))
    have t : ∀ {ρ1 o res}, ex cf ctB [x0, .val (.str (p ++ c :: u)), .val (.str (p ++ d :: v)), .val (.int (p.length : Int)), .val (.str [c])] = some (ρ1, o) → fOut cf (put2 3 4) ctB (enumL ((p.length : Int) + 1) (u.map fun c => .str [c])) ρ1 o = res →
        forGo (put2 3 4) (ex cf ctB) (enumL (p.length : Int) ((c :: u).map fun c => .str [c])) [x0, .val (.str (p ++ c :: u)), .val (.str (p ++ d :: v)), x3, x4] = res := fun e1 e2 => zaN (st := put2 3 4) rfl e1 e2
    by_cases hcd : c = d
    · subst hcd
      have hle : u ≤ v := by
        rcases List.cons_le_cons_iff.mp hlt with k | ⟨_, k⟩
        · exact absurd k (Nat.lt_irrefl _)
        · exact k
      have e1 : ex cf ctB [x0, .val (.str (p ++ c :: u)), .val (.str (p ++ c :: v)), .val (.int (p.length : Int)), .val (.str [c])] = some ([x0, .val (.str (p ++ c :: u)), .val (.str (p ++ c :: v)), .val (.int (p.length : Int)), .val (.str [c])], .next) := by
        rw [decide_eq_true rfl] at h2
        unfold ctB
        exact R_seq (R_ite (t := false) (T_of (V_op2 (V_v rfl rfl) (V_op2 (V_v rfl rfl) (V_v rfl rfl) h1) h2)) (R_ff zao)) (zaf zao)
      have := zkr u v (p ++ [c]) (.val (.int (p.length : Int))) (.val (.str [c])) (by rw [List.append_assoc]; exact hl) hle
      rw [List.length_append, List.append_assoc, List.append_assoc] at this
      change CpT (p ++ c :: u) (p ++ [c]) u v x0 (p ++ c :: v) (forGo (put2 3 4) (ex cf ctB) (enumL ((p.length : Int) + 1) (u.map fun c => .str [c])) [x0, .val (.str (p ++ c :: u)), .val (.str (p ++ c :: v)), .val (.int (p.length : Int)), .val (.str [c])]) at this
      rw [t e1 (zbG rfl)]
      generalize forGo (put2 3 4) (ex cf ctB) (enumL ((p.length : Int) + 1) (u.map fun c => .str [c])) [x0, .val (.str (p ++ c :: u)), .val (.str (p ++ c :: v)), .val (.int (p.length : Int)), .val (.str [c])] = res at this
      cases this with
      | ret =>
        rw [List.append_assoc, show [c] ++ lc u v = lc (c :: u) (c :: v) by rw [zb1, if_pos rfl]; rfl]
        exact .ret
      | all e => exact .all (by rw [zb1, if_pos rfl, e])
    · have e1 : ex cf ctB [x0, .val (.str (p ++ c :: u)), .val (.str (p ++ d :: v)), .val (.int (p.length : Int)), .val (.str [c])] = some ([x0, .val (.str (p ++ c :: u)), .val (.str (p ++ d :: v)), .val (.int (p.length : Int)), .val (.str [c])], .ret (.str p)) := by
        rw [decide_eq_false fun q => hcd (List.cons.inj q).1] at h2
        unfold ctB
        exact R_seq (R_ite (t := true) (T_of (V_op2 (V_v rfl rfl) (V_op2 (V_v rfl rfl) (V_v rfl rfl) h1) h2)) (R_tt (R_seq (R_ret (E_of (V_op3 (V_v rfl rfl) rfl (V_v rfl rfl) h3) rfl)) zam))) zam
      rw [t e1 zeq]
      have e2 : p = p ++ lc (c :: u) (d :: v) := by rw [zb1, if_neg hcd, List.append_nil]
      rw [show (Out.ret (.str p)) = .ret (.str (p ++ lc (c :: u) (d :: v))) from congrArg (fun p => Out.ret (.str p)) e2]
      exact .ret
theorem V_mapFt {α : Type} {ρ : List Slot} {f : Nat} {x : X} {a : R} {l : List α} {g v : α → D} (h : ev cf x ρ = some [a]) (h2 : a.ds = .tup (l.map g)) (hv : ∀ a ∈ l, cf f [g a] = some (v a)) : ev cf (.mapF f x) ρ = some [.val (.tup (l.map v))] := by
  rw [za1, h]
  simp only [h2]
  rw [List.map_map]
  exact congrArg (Option.map _) (zcZ hv)
end
inductive LT (L : List Tx) : D → Prop
  | l : LT L (.list (L.map .str))
  | t : LT L (.tup (L.map .str))
theorem LT.first {L : List Tx} {d : D} (h : LT L d) (h0 : L ≠ []) : d.truth = some true ∧ opF .index [d, .int 0] = some (.val (.str (L.head h0))) := by
  cases L with
  | nil => exact absurd rfl h0
  | cons t L =>
    cases h with
    | l => exact ⟨rfl, zcj (k := 0) rfl (by decide)⟩
    | t => exact ⟨rfl, zfr (k := 0) rfl (by decide)⟩
theorem prefix4 (m : Nat) {L : List Tx} {d : D} (hd : LT L d) {a b : Tx} (ha : a ∈ L) (hb : b ∈ L) (hl : b.length ≤ 100) (h : ∀ n ∈ L, a ≤ n ∧ n ≤ b) : callF fns04 (m + 2) 12 [d] = some (.str (lc a b)) := by
  have h0 : L ≠ [] := fun e => by rw [e] at ha; cases ha
  obtain ⟨f1, f2⟩ := hd.first h0
  refine zcs (fn := fn_commonprefix4) rfl (ρ := [.val d, .unset, .unset, .unset, .unset]) rfl ?_
  show ∃ ρ', ex (callF fns04 (m + 1)) s_commonprefix4 _ = _
  have f0 := fun l => zee (fns := fns04) rfl m l
  generalize callF fns04 (m + 1) = cf at f0
  have k1 : opF .min [.tup (L.map .str)] = some (.val (.str a)) := zl4 ordT ha fun n hn => zlT (h n hn).1
  have k2 : opF .max [.tup (L.map .str)] = some (.val (.str b)) := zl4 ordTG hb fun n hn => zlT (h n hn).2
  have mf : ev cf (.mapF 2 (.var 0)) [.val d, .unset, .unset, .unset, .unset] = some [.val (.tup (L.map .str))] := by
    cases hd with
    | l => exact zl6 (V_v rfl rfl) rfl fun t _ => f0 t
    | t => exact V_mapFt (V_v rfl rfl) rfl fun t _ => f0 t
  have c1 : evT cf (.not (.var 0)) [.val d, .unset, .unset, .unset, .unset] = some false := by
    rw [zcc, zbc, V_v rfl rfl]
    show truthR (Option.map _ d.truth) = _
    rw [f1]; rfl
  have c2 : evT cf (.not (.op .isInst (.cons (.op .index (.cons (.var 0) (.cons (.const (.int 0)) .nil))) (.cons (.tup (.cons (.const (.ty "list")) (.cons (.const (.ty "tuple")) .nil))) .nil)))) [.val d, .unset, .unset, .unset, .unset] = some true :=
    T_of (V_not (p := false) (V_op2 (V_op2 (V_v rfl rfl) rfl f2) rfl rfl))
  have lp := zkr (cf := cf) (x0 := .val (.tup (L.map .str))) a b [] .unset .unset hl (h b hb).1
  have hgo : ∃ ρ', ex cf (.seq (.forE2 3 4 (.enumI (.var 1)) ctB) (.seq (.ret (.var 1)) .skip)) [.val (.tup (L.map .str)), .val (.str a), .val (.str b), .unset, .unset] = some (ρ', .ret (.str (lc a b))) := by
    generalize hres : forGo (put2 3 4) (ex cf ctB) (enumL (([] : Tx).length : Int) (a.map fun c => .str [c])) [.val (.tup (L.map .str)), .val (.str ([] ++ a)), .val (.str ([] ++ b)), .unset, .unset] = res at lp
    have ei : evI cf (.enumI (.var 1)) [.val (.tup (L.map .str)), .val (.str a), .val (.str b), .unset, .unset] = some (enumL (0 : Int) (a.map fun c => .str [c])) := rfl
    cases lp with
    | ret => exact ⟨_, R_seq (zkJ ei hres) zam⟩
    | all e => exact ⟨_, R_seq (zkJ ei hres) (zaf (R_seq (R_ret (d := .str (lc a b)) (by rw [e]; rfl)) zam))⟩
  obtain ⟨ρ', hgo⟩ := hgo
  unfold ctB at hgo
  unfold s_commonprefix4
  exact ⟨ρ', R_seq (R_ite c1 (R_ff zao)) (zaf (R_seq (R_ite c2 (R_tt (R_seq (zah (E_of mf rfl) rfl) (zaf zao)))) (zaf (R_seq (zah (E_of (V_op1 (V_v rfl rfl) k1) rfl) rfl) (zaf (R_seq (zah (E_of (V_op1 (V_v rfl rfl) k2) rfl) rfl) (zaf hgo)))))))⟩
theorem zgR {d : Nms} (h0 : d ≠ []) (h : ∀ w ∈ d, NameOK w) : strip0 (joinL [47] d ++ [47]) = joinL [47] d := by
  obtain ⟨t, c, e, hc⟩ := zgs h0 h
  unfold strip0
  rw [if_neg]
  · rw [List.reverse_append, List.reverse_singleton, List.singleton_append, List.dropWhile_cons_of_pos rfl, e]
    exact zkq hc
  · intro q
    have : c ∈ joinL [47] d ++ [47] := by rw [e]; exact List.mem_append_left _ (List.mem_append_right _ List.mem_cons_self)
    rw [q] at this
    exact hc (List.eq_of_mem_replicate this)
theorem dir4 (m : Nat) {h : Tx} (hd : ∀ w ∈ (sp h).dropLast, NameOK w) (hl : h.length ≤ 100) : callF fns04 (m + 2) 6 [.str h] = some (.str (joinL [47] (sp h).dropLast)) := by
  obtain ⟨d, y, e⟩ : ∃ d y, sp h = d ++ [y] := ⟨_, _, (List.dropLast_concat_getLast (sp_ne h)).symm⟩
  have hy : 47 ∉ y := zcR y (e ▸ List.mem_append_right _ List.mem_cons_self)
  rw [e, List.dropLast_concat] at hd ⊢
  by_cases h0 : d = []
  · have e2 : h = y := by rw [← zaS h, e, h0]; rfl
    rw [h0, e2]
    exact ziG (fns := fns04) rfl rfl rfl m hy
  · have e2 : h = joinL [47] d ++ 47 :: y := by rw [← zaS h, e, za5 h0 (List.cons_ne_nil _ _)]; rfl
    rw [e2, List.length_append] at hl
    rw [e2, ziH (fns := fns04) rfl rfl rfl m hy (Nat.lt_of_le_of_lt (Nat.le_trans (Nat.le_add_right _ _) hl) (by decide)), zgR h0 hd]
theorem sp_len {t : Tx} : (sp t).length ≤ t.length + 1 ∧ ∀ w ∈ sp t, w.length ≤ t.length := by
  have key : ∀ ns : Nms, ns ≠ [] → ns.length ≤ (joinL [47] ns).length + 1 ∧ ∀ w ∈ ns, w.length ≤ (joinL [47] ns).length := by
    intro ns
    induction ns with
    | nil => intro h; exact absurd rfl h
    | cons a ns ih =>
      intro _
      cases ns with
      | nil => exact ⟨Nat.succ_le_succ (Nat.zero_le _), fun w hw => by rw [List.mem_singleton.mp hw]; exact Nat.le_refl _⟩
      | cons b ns =>
        obtain ⟨h1, h2⟩ := ih (List.cons_ne_nil _ _)
        have e : (joinL [47] (a :: b :: ns)).length = a.length + 1 + (joinL [47] (b :: ns)).length := by
          show (a ++ [47] ++ joinL [47] (b :: ns)).length = _
          rw [List.length_append, List.length_append]; rfl
        rw [e]
        refine ⟨Nat.le_trans (Nat.succ_le_succ h1) ?_, fun w hw => ?_⟩
        · rw [Nat.add_assoc, Nat.add_assoc, Nat.add_comm 1, Nat.add_assoc]; exact Nat.le_add_left _ _
        · rcases List.mem_cons.mp hw with rfl | hw
          · exact Nat.le_trans (Nat.le_add_right _ _) (Nat.le_add_right _ _)
          · exact Nat.le_trans (h2 w hw) (Nat.le_add_left _ _)
  have := key (sp t) (sp_ne t)
  rw [zaS] at this
  exact this
theorem path4 (m : Nat) {S : List Tx} {a b : Tx} (hS : ∀ t ∈ S, PT t) (ha : a ∈ S) (hb : b ∈ S) (hp : ∀ t ∈ S, lc a b <+: t) (e : Bool) (he : e = true ↔ ∀ t ∈ S, Hd (lc a b) t) :
    ∃ x, callF fns04 (m + 2) 13 [.list (S.map .str)] = some (.str x) ∧ (e = true → x = lc a b) ∧ (e = false → callF fns04 (m + 2) 6 [.str (lc a b)] = some (.str x)) := by
  have h0 : S.map sp ≠ [] := fun q => by rw [List.map_eq_nil_iff.mp q] at ha; cases ha
  have all : ∀ {P : Nms → Prop}, (∀ t ∈ S, P (sp t)) → ∀ n ∈ S.map sp, P n := fun h n hn => by
    obtain ⟨t, ht, rfl⟩ := List.mem_map.mp hn
    exact h t ht
  obtain ⟨p, e1, hcp⟩ := zfK (fns := fns04) rfl rfl m (r := false) h0 (all fun t ht => (hS t ht).clean) (all fun t ht => Nat.le_trans sp_len.1 (Nat.le_trans (Nat.succ_le_succ (hS t ht).len) (by decide))) (all fun t ht w hw => Nat.le_trans (sp_len.2 w hw) (Nat.le_trans (hS t ht).len (by decide)))
  have e2 : (S.map sp).map (fun n => D.str (pth false n)) = S.map .str := by
    rw [List.map_map]
    exact List.map_congr_left fun t _ => congrArg D.str (zaS t)
  rw [e2] at e1
  refine ⟨_, e1, fun h => ?_, fun h => ?_⟩
  · rw [hcp.eq (cp_ends ha hb (he.mp h))]
    exact zaS _
  · have hn := cp_not ha hb hp fun q => by rw [he.mpr q] at h; cases h
    rw [hcp.eq hn]
    have hl := (zbK a b).length_le
    exact dir4 m (fun w hw => ((hS a ha).clean w ((hn.pre _ (List.mem_map_of_mem ha)).subset hw)).nm) (Nat.le_trans hl (Nat.le_trans (hS a ha).len (by decide)))
theorem le_pw {T : List Tx} (hT : T.Pairwise (· ≤ ·)) {p q : Nat} (h : p ≤ q) (hq : q < T.length) : T.getD p [] ≤ T.getD q [] := by
  have hp := Nat.lt_of_le_of_lt h hq
  rw [List.getD_eq_getElem?_getD, List.getD_eq_getElem?_getD, List.getElem?_eq_getElem hp, List.getElem?_eq_getElem hq]
  rcases Nat.lt_or_eq_of_le h with h | rfl
  · exact List.pairwise_iff_getElem.mp hT p q hp hq h
  · exact List.le_refl _
noncomputable def Rw (T : List Tx) (h : Tx) : List Nat := (List.range' 0 T.length).filter fun n => decide (h <+: T.getD n [])
theorem mem_Rw {T : List Tx} {h : Tx} {n : Nat} : n ∈ Rw T h ↔ n < T.length ∧ h <+: T.getD n [] := by
  unfold Rw
  rw [List.mem_filter, decide_eq_true_eq, List.mem_range'_1, Nat.zero_add]
  exact ⟨fun h => ⟨h.1.2, h.2⟩, fun h => ⟨⟨Nat.zero_le _, h.1⟩, h.2⟩⟩
theorem zh5 {P : Nat → Bool} : ∀ (N : Nat), (∀ p q r, p ≤ q → q ≤ r → r < N → P p = true → P r = true → P q = true) → ∃ f c, (List.range' 0 N).filter P = List.range' f c ∧ f + c ≤ N
  | 0, _ => ⟨0, 0, rfl, Nat.le_refl _⟩
  | N + 1, h => by
    obtain ⟨f, c, e, hc⟩ := zh5 N fun p q r h1 h2 h3 => h p q r h1 h2 (Nat.lt_succ_of_lt h3)
    rw [List.range'_1_concat, List.filter_append, e, Nat.zero_add]
    cases hN : P N with
    | false => exact ⟨f, c, by rw [List.filter_cons_of_neg (by rw [hN]; exact Bool.false_ne_true), List.filter_nil, List.append_nil], Nat.le_succ_of_le hc⟩
    | true =>
      rw [List.filter_cons_of_pos hN, List.filter_nil]
      cases c with
      | zero => exact ⟨N, 1, rfl, Nat.le_refl _⟩
      | succ c =>
        have hf : f + c ∈ (List.range' 0 N).filter P := by rw [e]; exact List.mem_range'_1.mpr ⟨Nat.le_add_right _ _, Nat.lt_succ_self _⟩
        obtain ⟨hf1, hf2⟩ := List.mem_filter.mp hf
        have hfN := (List.mem_range'_1.mp hf1).2
        rw [Nat.zero_add] at hfN
        have : f + (c + 1) = N := by
          refine Nat.le_antisymm hc (Nat.not_lt.mp fun hlt => ?_)
          have hq : N - 1 ∈ (List.range' 0 N).filter P := List.mem_filter.mpr ⟨List.mem_range'_1.mpr ⟨Nat.zero_le _, by rw [Nat.zero_add]; exact Nat.sub_lt (Nat.lt_of_le_of_lt (Nat.zero_le _) hfN) Nat.one_pos⟩, h (f + c) (N - 1) N (Nat.le_sub_one_of_lt hfN) (Nat.sub_le _ _) (Nat.lt_succ_self _) hf2 hN⟩
          rw [e] at hq
          have := (List.mem_range'_1.mp hq).2
          exact absurd (Nat.lt_of_lt_of_le this (Nat.le_sub_one_of_lt hlt)) (Nat.lt_irrefl _)
        refine ⟨f, c + 1 + 1, ?_, Nat.le_of_eq (congrArg Nat.succ this)⟩
        rw [List.range'_1_concat (n := c + 1), this]
set_option genInjectivity false in
structure RowOK (T : List Tx) (i j : Nat) (f c : Nat) : Prop where
  e : Rw T (lc (T.getD i []) (T.getD j [])) = List.range' f c
  le : f + c ≤ T.length
  fi : f ≤ i
  jl : j < f + c
  hd : lc (T.getD f []) (T.getD (f + c - 1) []) = lc (T.getD i []) (T.getD j [])
theorem row_ok {T : List Tx} (hT : T.Pairwise (· ≤ ·)) {i j : Nat} (hij : i ≤ j) (hj : j < T.length) : ∃ f c, RowOK T i j f c := by
  have hi : i < T.length := Nat.lt_of_le_of_lt hij hj
  have mi : i ∈ Rw T (lc (T.getD i []) (T.getD j [])) := mem_Rw.mpr ⟨hi, zbK _ _⟩
  have mj : j ∈ Rw T (lc (T.getD i []) (T.getD j [])) := mem_Rw.mpr ⟨hj, zco _ _⟩
  obtain ⟨f, c, e, hc⟩ := zh5 (P := fun n => decide (lc (T.getD i []) (T.getD j []) <+: T.getD n [])) T.length fun p q r h1 h2 h3 hp hr => by
    rw [decide_eq_true_eq] at hp hr ⊢
    exact (zcM hp hr).trans (zeX (le_pw hT h1 (Nat.lt_of_le_of_lt h2 h3)) (le_pw hT h2 h3))
  have e' : Rw T (lc (T.getD i []) (T.getD j [])) = List.range' f c := e
  rw [e'] at mi mj
  have mi := List.mem_range'_1.mp mi
  have mj := List.mem_range'_1.mp mj
  have h0 : 0 < f + c := Nat.lt_of_le_of_lt (Nat.zero_le _) mi.2
  have hl : f + c - 1 ∈ List.range' f c := List.mem_range'_1.mpr ⟨Nat.le_trans mi.1 (Nat.le_sub_one_of_lt mi.2), Nat.sub_lt h0 Nat.one_pos⟩
  have hf : f ∈ List.range' f c := List.mem_range'_1.mpr ⟨Nat.le_refl _, Nat.lt_of_le_of_lt mi.1 mi.2⟩
  rw [← e'] at hl hf
  have ⟨l1, l2⟩ := mem_Rw.mp hl
  have ⟨f1, f2⟩ := mem_Rw.mp hf
  refine ⟨f, c, e', hc, mi.1, mj.2, zjo (zcM ?_ ?_) (zcM f2 l2)⟩
  · exact zeX (le_pw hT mi.1 hi) (le_pw hT (Nat.le_sub_one_of_lt mi.2) l1)
  · exact zeX (le_pw hT (Nat.le_trans mi.1 hij) hj) (le_pw hT (Nat.le_sub_one_of_lt mj.2) l1)
theorem zjf (T : List Tx) (g h : Tx) : (Rw T g).filter (fun n => decide (n ∈ Rw T h)) = [] ∨ (Rw T g).filter (fun n => decide (n ∈ Rw T h)) = Rw T g ∨ (Rw T g).filter (fun n => decide (n ∈ Rw T h)) = Rw T h := by
  cases q : (Rw T g).filter (fun n => decide (n ∈ Rw T h)) with
  | nil => exact .inl rfl
  | cons n r =>
    have hn : n ∈ (Rw T g).filter (fun n => decide (n ∈ Rw T h)) := q ▸ List.mem_cons_self
    obtain ⟨h1, h2⟩ := List.mem_filter.mp hn
    have h1 := (mem_Rw.mp h1).2
    have h2 := (mem_Rw.mp (of_decide_eq_true h2)).2
    rw [← q]
    rcases List.prefix_or_prefix_of_prefix h1 h2 with h | h
    · right; right
      unfold Rw
      rw [List.filter_filter]
      refine List.filter_congr fun m hm => ?_
      have hm := (List.mem_range'_1.mp hm).2
      rw [Nat.zero_add] at hm
      rw [Bool.eq_iff_iff, Bool.and_eq_true, decide_eq_true_eq, decide_eq_true_eq, decide_eq_true_eq]
      exact ⟨fun x => (mem_Rw.mp x.1).2, fun x => ⟨mem_Rw.mpr ⟨hm, x⟩, h.trans x⟩⟩
    · right; left
      refine List.filter_eq_self.mpr fun m hm => decide_eq_true (mem_Rw.mpr ?_)
      obtain ⟨a, b⟩ := mem_Rw.mp hm
      exact ⟨a, h.trans b⟩
noncomputable def LL (f : Nat → Slot) : List Slot := [f 0, f 1, f 2, f 3, f 4, f 5, f 6, f 7, f 8, f 9, f 10, f 11, f 12, f 13, f 14, f 15, f 16, .unset, .unset, .unset, .unset, .unset]
theorem zh1 : ∀ {a b : List Nat}, PyData.eqvAll (D.toPys (a.map nI)) (D.toPys (b.map nI)) = decide (a = b)
  | [], [] => rfl
  | [], _ :: _ => rfl
  | _ :: _, [] => rfl
  | x :: a, y :: b => by
    have e : PyData.eqv (nI x).toPy (nI y).toPy = decide (x = y) := eqv_int.trans (decide_eq_decide.mpr ⟨Int.ofNat.inj, congrArg _⟩)
    simp only [List.map_cons, D.toPys, PyData.eqvAll, e, zh1 (a := a) (b := b)]
    by_cases h1 : x = y <;> by_cases h2 : a = b <;> simp [h1, h2]
theorem zlr {a b : List Nat} : PyData.eqv (D.list (a.map nI)).toPy (D.list (b.map nI)).toPy = decide (a = b) := by
  unfold D.toPy
  rw [PyData.eqv]
  exact zh1
theorem zju : ∀ {k : Nat} {l : List Nat}, D.oks (k + 1) (l.map nI) = true
  | _, [] => rfl
  | k, s :: l => by
    rw [List.map_cons]
    unfold D.oks
    rw [zju]; rfl
theorem zjv {k : Nat} {n : List Nat} : (D.list (n.map nI)).ok (k + 2) = true := by
  unfold D.ok
  exact zju
theorem o_ne_ints {a b : List Nat} : opF .ne [.list (a.map nI), .list (b.map nI)] = some (.val (.bool (!decide (a = b)))) := by
  have e : eqD (.list (a.map nI)) (.list (b.map nI)) = some (decide (a = b)) := by
    show (if ((D.list (a.map nI)).ok 9 && (D.list (b.map nI)).ok 9) = true then some (PyData.eqv (D.list (a.map nI)).toPy (D.list (b.map nI)).toPy) else none) = _
    rw [zjv, zjv, zlr]; rfl
  show ((eqD (.list (a.map nI)) (.list (b.map nI))).map (!·)).map (fun x => R.val (.bool x)) = _
  rw [e]; rfl
theorem zjI {a : List Nat} : opF .ne [.list (a.map nI), .list (a.map nI)] = some (.val (.bool false)) := o_ne_ints.trans (by rw [decide_eq_true rfl]; rfl)
theorem zfz {t : List Nat} : opF .ne [.str t, .str t] = some (.val (.bool false)) := (ne_str t t).trans (by rw [decide_eq_true rfl]; rfl)
theorem zdG {n : Nat} {a : List Nat} (h : n ∈ a) : opF .notin [nI n, .list (a.map nI)] = some (.val (.bool false)) := by
  have h1 : (inD (nI n) (.list (a.map nI))).map (fun x => R.val (.bool x)) = some (.val (.bool (decide (n ∈ a)))) := zhh
  show ((inD (nI n) (.list (a.map nI))).map (!·)).map (fun x => R.val (.bool x)) = _
  cases e : inD (nI n) (.list (a.map nI)) with
  | none => rw [e] at h1; cases h1
  | some b =>
    rw [e, decide_eq_true h] at h1
    cases h1
    rfl
theorem rev7 {α : Type} : ∀ {l : List α}, l.length ≤ 7 → pick l none none (some (-1)) = l.reverse
  | [], _ => by kernel_rfl
  | [_], _ => by kernel_rfl
  | [_, _], _ => by kernel_rfl
  | [_, _, _], _ => by kernel_rfl
  | [_, _, _, _], _ => by kernel_rfl
  | [_, _, _, _, _], _ => by kernel_rfl
  | [_, _, _, _, _, _], _ => by kernel_rfl
  | [_, _, _, _, _, _, _], _ => by kernel_rfl
  | _ :: _ :: _ :: _ :: _ :: _ :: _ :: _ :: _, h => absurd h (by simp)
theorem o_slN {l : List D} {a b : Nat} (ha : a ≤ 1000000) (hb : b ≤ 1000000) : opF .slice [.list l, .int (a : Int), .int (b : Int)] = some (.own (cut l (clip (a : Int) l.length) (clip (b : Int) l.length))) := by
  show (match bound (.int (a : Int)) 0 l.length, bound (.int (b : Int)) l.length l.length with
    | some lo, some hi => some (R.own (cut l lo hi))
    | _, _ => none) = _
  have e : ∀ {k : Nat} {d : Nat}, k ≤ 1000000 → bound (.int (k : Int)) d l.length = some (clip (k : Int) l.length) := fun {k d} h => by
    show (if small (k : Int) = true then some (clip (k : Int) l.length) else none) = _
    rw [if_pos (zaF h)]
  rw [e ha, e hb]
theorem zh2 {T : List Tx} : ∀ (k i : Nat), i + k ≤ T.length → (T.drop i).take k = (List.range' i k).map fun n => T.getD n []
  | 0, i, _ => rfl
  | k + 1, i, h => by
    have hi : i < T.length := Nat.lt_of_lt_of_le (Nat.lt_add_of_pos_right (Nat.succ_pos k)) h
    rw [List.drop_eq_getElem_cons hi, List.take_succ_cons, zh2 k (i + 1) (by rw [Nat.add_assoc, Nat.add_comm 1]; exact h), List.range'_succ, List.map_cons, List.getD_eq_getElem?_getD, List.getElem?_eq_getElem hi]
    rfl
noncomputable def Sl (T : List Tx) (i k : Nat) : List Tx := (List.range' i k).map fun n => T.getD n []
theorem o_some {T : List Tx} {i k : Nat} (h : i + k ≤ T.length) (h7 : T.length ≤ 7) : opF .slice [.list (T.map .str), nI i, nI (i + k)] = some (.own ((Sl T i k).map .str)) := by
  have h1 : i ≤ 1000000 := Nat.le_trans (Nat.le_add_right _ _) (Nat.le_trans h (Nat.le_trans h7 (by decide)))
  refine (o_slN (l := T.map .str) h1 (Nat.le_trans h (Nat.le_trans h7 (by decide)))).trans (congrArg (fun l => some (R.own l)) ?_)
  rw [zb5 (by rw [List.length_map]; exact Nat.le_trans (Nat.le_add_right _ _) h), zb5 (by rw [List.length_map]; exact h)]
  unfold cut Sl
  rw [Nat.add_sub_cancel_left, ← List.map_drop, ← List.map_take, zh2 k i h]
theorem zlP {T : List Tx} {i k : Nat} {t : Tx} (h : t ∈ Sl T i k) : ∃ n, i ≤ n ∧ n < i + k ∧ t = T.getD n [] := by
  obtain ⟨n, hn, rfl⟩ := List.mem_map.mp h
  have := List.mem_range'_1.mp hn
  exact ⟨n, this.1, this.2, rfl⟩
theorem ze8 {T : List Tx} {i k n : Nat} (h : i ≤ n) (h2 : n < i + k) : T.getD n [] ∈ Sl T i k := List.mem_map.mpr ⟨n, List.mem_range'_1.mpr ⟨h, h2⟩, rfl⟩
noncomputable def rowD (T : List Tx) (h : Tx) : D := .tup [.str h, .list ((Rw T h).map nI)]
theorem dget (T : List Tx) (h : Tx) : ∀ hs : List Tx, dictGet (hs.map (rowD T)) h = if h ∈ hs then some (.list ((Rw T h).map nI)) else none
  | [] => rfl
  | g :: hs => by
    show (if g = h then some (D.list ((Rw T g).map nI)) else dictGet (hs.map (rowD T)) h) = _
    by_cases e : g = h
    · rw [if_pos e, if_pos (e ▸ List.mem_cons_self), e]
    · rw [if_neg e, dget T h hs]
      have : h ∈ g :: hs ↔ h ∈ hs := ⟨fun q => (List.mem_cons.mp q).resolve_left fun q => e q.symm, List.mem_cons_of_mem _⟩
      simp only [this]
inductive DV (l : List D) : Slot → Prop
  | own : DV l (.own l)
  | fz : DV l (.fdic l)
theorem DV.at {l : List D} {s : Slot} (h : DV l s) {ρ : List Slot} (e : ρ[5]? = some s) : dicAt ρ 5 = some l := by
  unfold dicAt dicOwn dicFz
  rw [e]
  cases h <;> rfl
section
variable {cf : CfT} {ρ : List Slot} {T hs : List Tx} {h : Tx} {y : X}
theorem V_dNot {s : Slot} (hd : DV (hs.map (rowD T)) s) (e : ρ[5]? = some s) (hy : ev cf y ρ = some [.val (.str h)]) : ev cf (.dNot 5 y) ρ = some [.val (.bool (!decide (h ∈ hs)))] := by
  rw [zhX, hd.at e, hy]
  show some [R.val (.bool (dictGet (hs.map (rowD T)) h).isNone)] = _
  rw [dget]
  by_cases q : h ∈ hs
  · rw [if_pos q, decide_eq_true q]; rfl
  · rw [if_neg q, decide_eq_false q]; rfl
theorem zkI {s : Slot} (hd : DV (hs.map (rowD T)) s) (e : ρ[5]? = some s) (hy : ev cf y ρ = some [.val (.str h)]) (q : h ∈ hs) : ev cf (.dGet 5 y) ρ = some [.val (.list ((Rw T h).map nI))] := by
  rw [zhY, hd.at e, hy]
  show (dictGet (hs.map (rowD T)) h).map _ = _
  rw [dget, if_pos q]; rfl
theorem V_lv {i : Nat} {l : List D} {s : Slot} (h : LV l s) (e : ρ[i]? = some s) (hd : dSlot i = false) : ∃ r, ev cf (.var i) ρ = some [r] ∧ r.ds = .list l := by
  cases h with
  | own => exact ⟨.bor l, by rw [zbl, e]; exact if_neg (by rw [hd]; exact Bool.false_ne_true), rfl⟩
  | val => exact ⟨_, V_v e rfl, rfl⟩
theorem ze7 {s : Slot} {i : Nat} (h : LV (T.map .str) s) (e : ρ[2]? = some s) (hy : ev cf y ρ = some [.val (nI i)]) (hi : i < T.length) (h7 : T.length ≤ 7) : ev cf (.op .index (.cons (.var 2) (.cons y .nil))) ρ = some [.val (.str (T.getD i []))] := by
  obtain ⟨r, e1, e2⟩ := V_lv (cf := cf) h e rfl
  refine V_op2 e1 hy ?_
  rw [e2]
  exact zcj (at_map hi []) (Nat.le_trans (Nat.le_of_lt hi) (Nat.le_trans h7 (by decide)))
theorem zh7 {s : Slot} (h : LV (T.map .str) s) (e : ρ[2]? = some s) : ev cf (.op .len (.cons (.var 2) .nil)) ρ = some [.val (nI T.length)] := by
  obtain ⟨r, e1, e2⟩ := V_lv (cf := cf) h e rfl
  refine V_op1 e1 ?_
  rw [e2]
  exact zlK
end
set_option genInjectivity false in
structure CF04 (cf : CfT) : Prop where
  h1 : ∀ as, (∀ k ∈ as, k < 6) → as.length ≤ 100 → cf 1 [.str (tx as), .tok 0, .str [46]] = some (.list ((mg as).map aP))
  h12 : ∀ {L : List Tx} {d : D} {a b : Tx}, LT L d → a ∈ L → b ∈ L → b.length ≤ 100 → (∀ n ∈ L, a ≤ n ∧ n ≤ b) → cf 12 [d] = some (.str (lc a b))
  h13 : ∀ {S : List Tx} {a b : Tx}, (∀ t ∈ S, PT t) → a ∈ S → b ∈ S → (∀ t ∈ S, lc a b <+: t) → ∀ e : Bool, (e = true ↔ ∀ t ∈ S, Hd (lc a b) t) → ∃ x, cf 13 [.list (S.map .str)] = some (.str x) ∧ (e = true → x = lc a b) ∧ (e = false → cf 6 [.str (lc a b)] = some (.str x))
  h15 : ∀ as w, (∀ k ∈ as, k < 6) → (∀ c ∈ w, c ∈ sg4) → w.length ≤ 100 → ∃ b, cf 15 [.list ((mg as).map aP), .tok 0, .str w] = some (.bool b) ∧ (b = true ↔ Mt as w)
  h18 : ∀ l, ∃ t, cf 18 [nI l] = some (.str t) ∧ PT t
  h26 : ∀ t, (∀ c ∈ t, c ∈ sg4) → t.length ≤ 50 → cf 26 [.str t] = some (.str (tx (tq t)))
  h27 : ∀ {a b : Tx}, a.length ≤ 100 → cf 27 [.str a, .str b] = some (.str (lc a b))
theorem cf04 : CF04 (callF fns04 40) where
  h1 := fun as h hl => trans4 38 h hl
  h12 := fun h1 h2 h3 h4 h5 => prefix4 38 h1 h2 h3 h4 h5
  h13 := fun h1 h2 h3 h4 e he => path4 38 h1 h2 h3 h4 e he
  h15 := fun as w h hw hl => tt4 38 h hw hl
  h18 := fun l => drawn4 39 l
  h26 := fun t h hl => quoted4 39 h hl
  h27 := fun h => alike4 39 h
noncomputable def trA : S := (.ite (.op .gt (.cons (.var 8) (.cons (.var 6) .nil))) (.seq (.assign 9 (.call 27 (.cons (.op .index (.cons (.var 2) (.cons (.op .sub (.cons (.var 8) (.cons (.const (.int 1)) .nil))) .nil))) (.cons (.op .index (.cons (.var 2) (.cons (.var 8) .nil))) .nil)))) (.seq (.ite (.op .lt (.cons (.op .len (.cons (.var 9) .nil)) (.cons (.op .len (.cons (.var 7) .nil)) .nil))) (.seq (.assign 7 (.var 9)) .skip) .skip) .skip)) .skip)
noncomputable def trC : X := (.or (.op .ne (.cons (.call 12 (.cons (.var 10) .nil)) (.cons (.var 7) .nil))) (.op .ne (.cons (.call 12 (.cons (.op .tupleOf (.cons (.op .slice3 (.cons (.var 10) (.cons (.const .none) (.cons (.const .none) (.cons (.op .neg (.cons (.const (.int 1)) .nil)) .nil))))) .nil)) .nil)) (.cons (.var 7) .nil))))
noncomputable def trD : S := (.ite (.dNot 5 (.var 7)) (.seq (.assign 11 (.call 1 (.cons (.op .add (.cons (.call 26 (.cons (.var 7) .nil)) (.cons (.const (.str [42])) .nil))) (.cons (.var 1) (.cons (.const (.str [46])) .nil))))) (.seq (.seq (.fz 2) (.dSet 5 (.var 7) (.comp 17 (.rangeI (.cons (.op .len (.cons (.var 2) .nil)) .nil)) (.call 15 (.cons (.var 11) (.cons (.var 1) (.cons (.op .index (.cons (.var 2) (.cons (.var 17) .nil))) .nil)))) (.var 17)))) (.seq (.seq (.fz 2) (.ite (.op .ne (.cons (.dGet 5 (.var 7)) (.cons (.comp 18 (.rangeI (.cons (.op .len (.cons (.var 2) .nil)) .nil)) (.op .eq (.cons (.op .slice (.cons (.op .index (.cons (.var 2) (.cons (.var 18) .nil))) (.cons (.const .none) (.cons (.op .len (.cons (.var 7) .nil)) .nil)))) (.cons (.var 7) .nil))) (.var 18)) .nil))) (.seq (.ret (.const (.bool false))) .skip) .skip)) (.seq (.assign 12 (.op .index (.cons (.dGet 5 (.var 7)) (.cons (.const (.int 0)) .nil)))) (.seq (.ite (.op .ne (.cons (.dGet 5 (.var 7)) (.cons (.op .listOf (.cons (.rangeI (.cons (.var 12) (.cons (.op .add (.cons (.var 12) (.cons (.op .len (.cons (.dGet 5 (.var 7)) .nil)) .nil))) .nil))) .nil)) .nil))) (.seq (.ret (.const (.bool false))) .skip) .skip) (.seq (.seq (.fz 2) (.ite (.op .ne (.cons (.call 12 (.cons (.comp 19 (.seqI (.dGet 5 (.var 7))) (.const (.bool true)) (.op .index (.cons (.var 2) (.cons (.var 19) .nil)))) .nil)) (.cons (.var 7) .nil))) (.seq (.ret (.const (.bool false))) .skip) .skip)) .skip)))))) .skip)
noncomputable def trE : X := (.or (.op .notin (.cons (.var 6) (.cons (.dGet 5 (.var 7)) .nil))) (.op .notin (.cons (.var 8) (.cons (.dGet 5 (.var 7)) .nil))))
noncomputable def trF : X := (.op .eq (.cons (.comp 20 (.seqI (.var 10)) (.op .notin (.cons (.op .slice (.cons (.var 20) (.cons (.op .len (.cons (.var 7) .nil)) (.cons (.op .add (.cons (.op .len (.cons (.var 7) .nil)) (.cons (.const (.int 1)) .nil))) .nil)))) (.cons (.tup (.cons (.const (.str [])) (.cons (.const (.str [47])) .nil))) .nil))) (.var 20)) (.cons (.list .nil) .nil)))
noncomputable def trG : X := (.op .ne (.cons (.call 13 (.cons (.var 10) .nil)) (.cons (.ite (.var 13) (.var 7) (.call 6 (.cons (.var 7) .nil))) .nil)))
set_option genInjectivity false in
structure TF (T : List Tx) : Prop where
  pt : ∀ t ∈ T, PT t
  so : T.Pairwise (· ≤ ·)
  n7 : T.length ≤ 7
set_option genInjectivity false in
structure I4 (T hs : List Tx) (i : Nat) (f : Nat → Slot) : Prop where
  g1 : f 1 = .val (.tok 0)
  g2 : LV (T.map .str) (f 2)
  g5 : f 5 = .own (hs.map (rowD T))
  g6 : f 6 = .val (nI i)
noncomputable def hd4 (T : List Tx) (i j : Nat) : Tx := lc (T.getD i []) (T.getD j [])
section
variable {cf : CfT} {f : Nat → Slot} {T hs : List Tx} {i j : Nat}
theorem TF.at (F : TF T) (h : i < T.length) : PT (T.getD i []) := F.pt _ (zfG h [])
theorem TF.m (F : TF T) {n : Nat} (h : n ≤ T.length) : n ≤ 1000000 := Nat.le_trans h (Nat.le_trans F.n7 (by decide))
theorem zhP (F : TF T) (h : i < T.length) : (∀ c ∈ hd4 T i j, c ∈ sg4) ∧ (hd4 T i j).length ≤ 7 :=
  ⟨fun c hc => (F.at h).sg c ((zbK _ _).subset hc), Nat.le_trans (zbK _ _).length_le (F.at h).len⟩
theorem o_gtN {a b : Nat} : opF .gt [nI a, nI b] = some (.val (.bool (decide (b < a)))) := by
  show some (R.val (.bool (decide ((b : Int) < (a : Int))))) = _
  rw [decide_eq_decide.mpr Int.ofNat_lt]
theorem trA_ex (C : CF04 cf) (F : TF T) (I : I4 T hs i f) (hij : i ≤ j) (hj : j < T.length) (g8 : f 8 = .val (nI j)) (g7 : f 7 = .val (.str (hd4 T i (if j = i then i else j - 1)))) :
    ∃ f', ex cf trA (LL f) = some (LL f', .next) ∧ I4 T hs i f' ∧ f' 8 = .val (nI j) ∧ f' 7 = .val (.str (hd4 T i j)) := by
  unfold trA
  by_cases e : j = i
  · subst e
    rw [if_pos rfl] at g7
    exact ⟨f, R_ite (t := false) (T_of (V_op2 (V_v rfl g8) (V_v rfl I.g6) (o_gtN.trans (by rw [decide_eq_false (Nat.lt_irrefl _)])))) (R_ff zao), I, g8, g7⟩
  · rw [if_neg e] at g7
    have hlt : i < j := Nat.lt_of_le_of_ne hij fun q => e q.symm
    have hj1 : j - 1 < T.length := Nat.lt_of_le_of_lt (Nat.sub_le _ _) hj
    have hle : i ≤ j - 1 := Nat.le_sub_one_of_lt hlt
    have c1 : evT cf (.op .gt (.cons (.var 8) (.cons (.var 6) .nil))) (LL f) = some true := T_of (V_op2 (V_v rfl g8) (V_v rfl I.g6) (o_gtN.trans (by rw [decide_eq_true hlt])))
    have s1 : opF .sub [nI j, .int 1] = some (.val (nI (j - 1))) := by
      show some (R.val (.int ((j : Int) - ((1 : Nat) : Int)))) = _
      rw [← Int.ofNat_sub (Nat.lt_of_le_of_lt (Nat.zero_le _) hlt)]; rfl
    have e9 := C.h27 (a := T.getD (j - 1) []) (b := T.getD j []) (Nat.le_trans (F.at hj1).len (by decide))
    let f1 := upd f 9 (.val (.str (hd4 T (j - 1) j)))
    have a9 : ev1 cf (.call 27 (.cons (.op .index (.cons (.var 2) (.cons (.op .sub (.cons (.var 8) (.cons (.const (.int 1)) .nil))) .nil))) (.cons (.op .index (.cons (.var 2) (.cons (.var 8) .nil))) .nil))) (LL f) = some (.str (hd4 T (j - 1) j)) :=
      E_of (zbV (zaq (ze7 I.g2 rfl (V_op2 (V_v rfl g8) rfl s1) hj1 F.n7) (zaq (ze7 I.g2 rfl (V_v rfl g8) hj F.n7) rfl)) rfl e9) rfl
    have st := lc_step (le_pw F.so hle hj1) (le_pw F.so (Nat.sub_le j 1) hj)
    have c2 : evT cf (.op .lt (.cons (.op .len (.cons (.var 9) .nil)) (.cons (.op .len (.cons (.var 7) .nil)) .nil))) (LL f1) = some (decide ((hd4 T (j - 1) j).length < (hd4 T i (j - 1)).length)) :=
      T_of (V_op2 (V_op1 (V_v rfl rfl) zcU) (V_op1 (V_v rfl (show f1 7 = _ from g7)) zcU) o_ltn)
    have go : ∃ f', ex cf (.ite (.op .lt (.cons (.op .len (.cons (.var 9) .nil)) (.cons (.op .len (.cons (.var 7) .nil)) .nil))) (.seq (.assign 7 (.var 9)) .skip) .skip) (LL f1) = some (LL f', .next) ∧ I4 T hs i f' ∧ f' 8 = .val (nI j) ∧ f' 7 = .val (.str (hd4 T i j)) := by
      by_cases q : (hd4 T (j - 1) j).length < (hd4 T i (j - 1)).length
      · rw [decide_eq_true q] at c2
        rw [show (if (lc (T.getD (j - 1) []) (T.getD j [])).length < (lc (T.getD i []) (T.getD (j - 1) [])).length then _ else _) = lc (T.getD (j - 1) []) (T.getD j []) from if_pos q] at st
        exact ⟨upd f1 7 (.val (.str (hd4 T (j - 1) j))), R_ite c2 (R_tt (R_seq (zah (E_of (V_v rfl rfl) rfl) rfl) (zaf zao))), ⟨I.g1, I.g2, I.g5, I.g6⟩, g8, congrArg (fun t => Slot.val (.str t)) st.symm⟩
      · rw [decide_eq_false q] at c2
        rw [show (if (lc (T.getD (j - 1) []) (T.getD j [])).length < (lc (T.getD i []) (T.getD (j - 1) [])).length then _ else _) = lc (T.getD i []) (T.getD (j - 1) []) from if_neg q] at st
        exact ⟨f1, R_ite c2 (R_ff zao), ⟨I.g1, I.g2, I.g5, I.g6⟩, g8, g7.trans (congrArg (fun t => Slot.val (.str t)) st.symm)⟩
    obtain ⟨f', e3, h⟩ := go
    exact ⟨f', R_ite c1 (R_tt (R_seq (zah a9 rfl) (zaf (R_seq e3 (zaf zao))))), h⟩
theorem Sl_hd (F : TF T) {k : Nat} (hk : i + k ≤ T.length) (h0 : 0 < k) : ∀ t ∈ Sl T i k, (T.getD i [] ≤ t ∧ t ≤ T.getD (i + k - 1) []) ∧ hd4 T i (i + k - 1) <+: t := by
  intro t ht
  obtain ⟨n, h1, h2, rfl⟩ := zlP ht
  have hn : n < T.length := Nat.lt_of_lt_of_le h2 hk
  have hl : i + k - 1 < T.length := Nat.lt_of_lt_of_le (Nat.sub_lt (Nat.lt_of_lt_of_le h0 (Nat.le_add_left _ _)) Nat.one_pos) hk
  have a := le_pw F.so h1 hn
  have b := le_pw F.so (Nat.le_sub_one_of_lt h2) hl
  exact ⟨⟨a, b⟩, zeX a b⟩
theorem trC_ev (C : CF04 cf) (F : TF T) {k : Nat} (hk : i + k ≤ T.length) (h0 : 0 < k) (g7 : f 7 = .val (.str (hd4 T i (i + k - 1)))) (g10 : f 10 = .val (.list ((Sl T i k).map .str))) : evT cf trC (LL f) = some false := by
  have hl : i + k - 1 < T.length := Nat.lt_of_lt_of_le (Nat.sub_lt (Nat.lt_of_lt_of_le h0 (Nat.le_add_left _ _)) Nat.one_pos) hk
  have ma : T.getD i [] ∈ Sl T i k := ze8 (Nat.le_refl _) (Nat.lt_add_of_pos_right h0)
  have mb : T.getD (i + k - 1) [] ∈ Sl T i k := ze8 (Nat.le_sub_one_of_lt (Nat.lt_add_of_pos_right h0)) (Nat.sub_lt (Nat.lt_of_lt_of_le h0 (Nat.le_add_left _ _)) Nat.one_pos)
  have hb : (T.getD (i + k - 1) []).length ≤ 100 := Nat.le_trans (F.at hl).len (by decide)
  have e1 := C.h12 (LT.l (L := Sl T i k)) ma mb hb fun n hn => (Sl_hd F hk h0 n hn).1
  have e2 := C.h12 (LT.t (L := (Sl T i k).reverse)) (List.mem_reverse.mpr ma) (List.mem_reverse.mpr mb) hb fun n hn => (Sl_hd F hk h0 n (List.mem_reverse.mp hn)).1
  have k7 : ((Sl T i k).map D.str).length ≤ 7 := by
    unfold Sl
    rw [List.length_map, List.length_map, List.length_range']
    exact Nat.le_trans (Nat.le_trans (Nat.le_add_left _ _) hk) F.n7
  have r : opF .slice3 [.list ((Sl T i k).map .str), .none, .none, .int (-1)] = some (.own ((Sl T i k).reverse.map .str)) := by
    show some (R.own (pick ((Sl T i k).map D.str) none none (some (-1)))) = _
    rw [rev7 k7, List.map_reverse]
  unfold trC
  exact T_of (V_or (p := false) (q := false) (V_op2 (zbV (zaq (V_v rfl g10) rfl) rfl e1) (V_v rfl g7) zfz) (V_op2 (zbV (zaq (V_op1 (V_op (zaq (V_v rfl g10) (zaq rfl (zaq rfl (zaq (V_op1 rfl rfl) rfl)))) r) rfl) rfl) rfl e2) (V_v rfl g7) zfz))
theorem zj7 {l : List D} (h : LV l (f 2)) : ex cf (.fz 2) (LL f) = some (LL (upd f 2 (.val (.list l))), .next) := by
  cases q : f 2 with
  | own l' =>
    rw [q] at h
    cases h
    exact R_fz (l := l) (by show (match some (f 2) with | some (.own l) => if dSlot 2 then none else some l | _ => none) = _; rw [q]; rfl) rfl
  | val d =>
    rw [q] at h
    cases h
    have e : upd f 2 (.val (.list l)) = f := by
      funext k
      unfold upd
      split
      · rename_i hk; rw [hk, q]
      · rfl
    rw [e]
    exact R_fz_no (by show (match some (f 2) with | some (.own l) => if dSlot 2 then none else some l | _ => none) = _; rw [q])
  | _ => rw [q] at h; cases h
theorem R_dSet {l : List D} {q : List Nat} {d : D} {k x : X} {ρ ρ' : List Slot} {i : Nat} (h1 : dicOwn ρ i = some l) (hk : ev1 cf k ρ = some (.str q)) (h : ev1 cf x ρ = some d) (hn : dictGet l q = none) (hl : l.length < lim) (h2 : ρ.set i (.own (l ++ [.tup [.str q, d]])) = ρ') : ex cf (.dSet i k x) ρ = some (ρ', .next) := by
  rw [zhV, h1, hk, h]
  show (if (dictGet l q).isNone = true ∧ l.length < lim then some (ρ.set i (.own (l ++ [.tup [.str q, d]])), Out.next) else none) = _
  rw [if_pos ⟨by rw [hn]; rfl, hl⟩, h2]
end
noncomputable def PD (h : Tx) : D := .list ((mg (tq h ++ [5])).map aP)
theorem tx_star (h : Tx) : tx (tq h ++ [5]) = tx (tq h) ++ [42] := by
  unfold tx
  rw [List.flatMap_append]; rfl
theorem o_taket {t : List Nat} {k : Nat} (hk : k ≤ 1000000) : opF .slice [.str t, .none, nI k] = some (.val (.str (t.take k))) := by
  have e : bound (nI k) t.length t.length = some (clip (k : Int) t.length) := by
    show (if small (k : Int) = true then some (clip (k : Int) t.length) else none) = _
    rw [if_pos (zaF hk)]
  show (match bound .none 0 t.length, bound (nI k) t.length t.length with
    | some lo, some hi => some (R.val (.str (cut t lo hi)))
    | _, _ => none) = _
  rw [e]
  show some (R.val (.str (cut t 0 (clip (k : Int) t.length)))) = _
  have : cut t 0 (clip (k : Int) t.length) = t.take k := by
    unfold cut
    rw [List.drop_zero, Nat.sub_zero]
    rcases Nat.le_total k t.length with h | h
    · rw [zb5 h]
    · have : clip (k : Int) t.length = t.length := by
        unfold clip
        rw [if_neg (Int.not_lt.mpr (Int.natCast_nonneg k)), Int.toNat_natCast]
        exact if_neg fun q => Nat.not_lt.mpr h (Int.ofNat_lt.mp q)
      rw [this, List.take_of_length_le (Nat.le_refl _), List.take_of_length_le h]
  rw [this]
section
variable {cf : CfT} {f : Nat → Slot} {T hs : List Tx} {i j : Nat}
theorem zkX (C : CF04 cf) (F : TF T) (hi : i < T.length) (g1 : f 1 = .val (.tok 0)) (g7 : f 7 = .val (.str (hd4 T i j))) :
    ev1 cf (.call 1 (.cons (.op .add (.cons (.call 26 (.cons (.var 7) .nil)) (.cons (.const (.str [42])) .nil))) (.cons (.var 1) (.cons (.const (.str [46])) .nil)))) (LL f) = some (PD (hd4 T i j)) := by
  obtain ⟨s1, s2⟩ := zhP (j := j) F hi
  have q := C.h26 _ s1 (Nat.le_trans s2 (by decide))
  have hx := ziS (tq_lt s1)
  have hl : (tq (hd4 T i j) ++ [5]).length ≤ 8 := by
    unfold tq
    rw [List.length_append, List.length_map]
    exact Nat.succ_le_succ s2
  have t := C.h1 (tq (hd4 T i j) ++ [5]) (fun k hk => by
    rcases List.mem_append.mp hk with h | h
    · exact tq_lt s1 k h
    · rw [List.mem_singleton.mp h]; decide) (Nat.le_trans hl (by decide))
  rw [tx_star] at t
  have ht : (tq (hd4 T i j)).length ≤ 7 := by unfold tq; rw [List.length_map]; exact s2
  exact E_of (zbV (zaq (V_op2 (zbV (zaq (V_v rfl g7) rfl) rfl q) rfl (zdV (Nat.le_trans (Nat.add_le_add_right (Nat.le_trans hx (Nat.mul_le_mul_left 6 ht)) 1) (by decide)))) (zaq (V_v rfl g1) (zaq rfl rfl))) rfl t) rfl
theorem row_ev (C : CF04 cf) (F : TF T) (hi : i < T.length) (g1 : f 1 = .val (.tok 0)) (g2 : LV (T.map .str) (f 2)) (g11 : f 11 = .val (PD (hd4 T i j))) :
    ev cf (.comp 17 (.rangeI (.cons (.op .len (.cons (.var 2) .nil)) .nil)) (.call 15 (.cons (.var 11) (.cons (.var 1) (.cons (.op .index (.cons (.var 2) (.cons (.var 17) .nil))) .nil)))) (.var 17)) (LL f) = some [.own ((Rw T (hd4 T i j)).map nI)] := by
  refine zep (g := nI) (v := nI) (p := fun n => decide (hd4 T i j <+: T.getD n [])) (zb6 (zaq (zh7 g2 rfl) rfl) (zbX (F.m (Nat.le_refl _)))) fun n hn => ?_
  have hn := (List.mem_range'_1.mp hn).2
  rw [Nat.zero_add] at hn
  obtain ⟨s1, s2⟩ := zhP (j := j) F hi
  obtain ⟨b, e, hb⟩ := C.h15 (tq (hd4 T i j) ++ [5]) (T.getD n []) (fun k hk => by
    rcases List.mem_append.mp hk with h | h
    · exact tq_lt s1 k h
    · rw [List.mem_singleton.mp h]; decide) (F.at hn).sg (Nat.le_trans (F.at hn).len (by decide))
  have : b = decide (hd4 T i j <+: T.getD n []) := by rw [Bool.eq_iff_iff, hb, mt_head s1, decide_eq_true_eq]
  rw [this] at e
  exact zcQ (zbV (zaq (V_v rfl g11) (zaq (V_v rfl g1) (zaq (ze7 (f 2 |> fun _ => g2) rfl (V_v rfl rfl) hn F.n7) rfl))) rfl e) (fun _ => V_v rfl rfl) rfl
theorem row2_ev (F : TF T) (hi : i < T.length) (g2 : LV (T.map .str) (f 2)) (g7 : f 7 = .val (.str (hd4 T i j))) :
    ev cf (.comp 18 (.rangeI (.cons (.op .len (.cons (.var 2) .nil)) .nil)) (.op .eq (.cons (.op .slice (.cons (.op .index (.cons (.var 2) (.cons (.var 18) .nil))) (.cons (.const .none) (.cons (.op .len (.cons (.var 7) .nil)) .nil)))) (.cons (.var 7) .nil))) (.var 18)) (LL f) = some [.own ((Rw T (hd4 T i j)).map nI)] := by
  refine zep (g := nI) (v := nI) (p := fun n => decide (hd4 T i j <+: T.getD n [])) (zb6 (zaq (zh7 g2 rfl) rfl) (zbX (F.m (Nat.le_refl _)))) fun n hn => ?_
  have hn := (List.mem_range'_1.mp hn).2
  rw [Nat.zero_add] at hn
  have : opF .eq [.str ((T.getD n []).take (hd4 T i j).length), .str (hd4 T i j)] = some (.val (.bool (decide (hd4 T i j <+: T.getD n [])))) := by
    rw [eq_str, decide_eq_decide.mpr (eq_comm.trans List.prefix_iff_eq_take.symm)]
  exact zcQ (V_op2 (V_op3 (ze7 g2 rfl (V_v rfl rfl) hn F.n7) rfl (V_op1 (V_v rfl g7) zcU) (o_taket (Nat.le_trans (zhP (j := j) F hi).2 (by decide)))) (V_v rfl g7) this) (fun _ => V_v rfl rfl) rfl
theorem trD_ex (C : CF04 cf) (F : TF T) (I : I4 T hs i f) (hij : i ≤ j) (hj : j < T.length) (hl : hs.length ≤ 1000) (g7 : f 7 = .val (.str (hd4 T i j))) :
    ∃ f' hs', ex cf trD (LL f) = some (LL f', .next) ∧ I4 T hs' i f' ∧ hd4 T i j ∈ hs' ∧ hs'.length ≤ hs.length + 1 ∧ f' 7 = f 7 ∧ f' 8 = f 8 ∧ f' 10 = f 10 := by
  have hi : i < T.length := Nat.lt_of_le_of_lt hij hj
  have c1 : evT cf (.dNot 5 (.var 7)) (LL f) = some (!decide (hd4 T i j ∈ hs)) := T_of (V_dNot (s := f 5) (by rw [I.g5]; exact DV.own) rfl (V_v rfl g7))
  unfold trD
  by_cases hm : hd4 T i j ∈ hs
  · rw [decide_eq_true hm] at c1
    exact ⟨f, hs, R_ite c1 (R_ff zao), I, hm, Nat.le_succ _, rfl, rfl, rfl⟩
  · rw [decide_eq_false hm] at c1
    obtain ⟨r, c, R⟩ := row_ok F.so hij hj
    have hR : Rw T (hd4 T i j) = List.range' r c := R.e
    have h0 : 0 < c := by
      rcases Nat.eq_zero_or_pos c with h | h
      · have h1 := R.fi; have h2 := R.jl
        rw [h, Nat.add_zero] at h2
        exact absurd (Nat.lt_of_le_of_lt hij h2) (Nat.not_lt.mpr h1)
      · exact h
    let V2 : Slot := .val (.list (T.map .str))
    let f1 := upd f 11 (.val (PD (hd4 T i j)))
    let f2 := upd f1 2 V2
    let f3 := upd f2 5 (.own ((hs ++ [hd4 T i j]).map (rowD T)))
    let f4 := upd f3 2 V2
    let f5 := upd f4 12 (.val (nI r))
    let f6 := upd f5 2 V2
    have mem : hd4 T i j ∈ hs ++ [hd4 T i j] := List.mem_append_right _ List.mem_cons_self
    have a1 := zkX C F hi I.g1 g7
    have z1 : ex cf (.fz 2) (LL f1) = some (LL f2, .next) := zj7 I.g2
    have d1 : ex cf (.dSet 5 (.var 7) (.comp 17 (.rangeI (.cons (.op .len (.cons (.var 2) .nil)) .nil)) (.call 15 (.cons (.var 11) (.cons (.var 1) (.cons (.op .index (.cons (.var 2) (.cons (.var 17) .nil))) .nil)))) (.var 17))) (LL f2) = some (LL f3, .next) := by
      refine R_dSet (l := hs.map (rowD T)) (q := hd4 T i j) (d := .list ((Rw T (hd4 T i j)).map nI)) ?_ (E_of (V_v rfl g7) rfl) (E_of (row_ev C F hi I.g1 .val rfl) rfl) ?_ ?_ ?_
      · show (if dSlot 5 = true then (some (f 5)).bind ownS else none) = _
        rw [I.g5]; rfl
      · rw [dget, if_neg hm]
      · rw [List.length_map]; exact Nat.lt_of_le_of_lt hl (by decide)
      · show _ = LL (upd f2 5 (.own ((hs ++ [hd4 T i j]).map (rowD T))))
        rw [List.map_append]; rfl
    have dg : ∀ {g : Nat → Slot} {ρ : List Slot}, g 5 = .own ((hs ++ [hd4 T i j]).map (rowD T)) → g 7 = .val (.str (hd4 T i j)) → ρ[5]? = some (g 5) → ρ[7]? = some (g 7) → ev cf (.dGet 5 (.var 7)) ρ = some [.val (.list ((Rw T (hd4 T i j)).map nI))] := fun {g ρ} e5 e7 q5 q7 => zkI (hs := hs ++ [hd4 T i j]) (DV.own) (by rw [q5, e5]) (V_v q7 e7) mem
    have z2 : ex cf (.fz 2) (LL f3) = some (LL f4, .next) := zj7 .val
    have c2 : evT cf (.op .ne (.cons (.dGet 5 (.var 7)) (.cons (.comp 18 (.rangeI (.cons (.op .len (.cons (.var 2) .nil)) .nil)) (.op .eq (.cons (.op .slice (.cons (.op .index (.cons (.var 2) (.cons (.var 18) .nil))) (.cons (.const .none) (.cons (.op .len (.cons (.var 7) .nil)) .nil)))) (.cons (.var 7) .nil))) (.var 18)) .nil))) (LL f4) = some false :=
      T_of (V_op2 (dg (g := f4) rfl g7 rfl rfl) (row2_ev F hi .val g7) zjI)
    have i12 : opF .index [.list ((Rw T (hd4 T i j)).map nI), .int 0] = some (.val (nI r)) := by
      rw [hR]
      cases c with
      | zero => cases h0
      | succ c => exact zcj (k := 0) rfl (by decide)
    have a2 : ev1 cf (.op .index (.cons (.dGet 5 (.var 7)) (.cons (.const (.int 0)) .nil))) (LL f4) = some (nI r) := E_of (V_op2 (dg (g := f4) rfl g7 rfl rfl) rfl i12) rfl
    have hrl : r + c ≤ 1000000 := F.m R.le
    have lenR : opF .len [.list ((Rw T (hd4 T i j)).map nI)] = some (.val (nI c)) := by rw [zlK, hR, List.length_range']
    have rg : opRange [nI r, nI (r + c)] = some ((Rw T (hd4 T i j)).map nI) := by
      have := zd2 (a := r) (n := r + c) (Nat.le_trans (Nat.le_add_right _ _) hrl) hrl
      rw [Nat.add_sub_cancel_left] at this
      rw [hR]
      exact this
    have vr : ev cf (.rangeI (.cons (.var 12) (.cons (.op .add (.cons (.var 12) (.cons (.op .len (.cons (.dGet 5 (.var 7)) .nil)) .nil))) .nil))) (LL f5) = some [.val (.list ((Rw T (hd4 T i j)).map nI))] :=
      zb6 (rs := [.val (nI r), .val (nI (r + c))]) (zaq (V_v rfl rfl) (zaq (V_op2 (V_v rfl rfl) (V_op1 (dg (g := f5) rfl g7 rfl rfl) lenR) (zlM (a := r) (b := c))) rfl)) rg
    have c3 : evT cf (.op .ne (.cons (.dGet 5 (.var 7)) (.cons (.op .listOf (.cons (.rangeI (.cons (.var 12) (.cons (.op .add (.cons (.var 12) (.cons (.op .len (.cons (.dGet 5 (.var 7)) .nil)) .nil))) .nil))) .nil)) .nil))) (LL f5) = some false :=
      T_of (V_op2 (dg (g := f5) rfl g7 rfl rfl) (V_op1 (r := .own ((Rw T (hd4 T i j)).map nI)) vr rfl) zjI)
    have z3 : ex cf (.fz 2) (LL f5) = some (LL f6, .next) := zj7 .val
    have cm : ev cf (.comp 19 (.seqI (.dGet 5 (.var 7))) (.const (.bool true)) (.op .index (.cons (.var 2) (.cons (.var 19) .nil)))) (LL f6) = some [.own ((Sl T r c).map .str)] := by
      have := zfS (cf := cf) (ρ := LL f6) (i := 19) (it := .seqI (.dGet 5 (.var 7))) (e := .op .index (.cons (.var 2) (.cons (.var 19) .nil))) (l := List.range' r c) (g := nI) (v := fun n => D.str (T.getD n [])) (zcO (dg (g := f6) rfl g7 rfl rfl) (by rw [hR]; rfl) rfl) fun n hn => ⟨_, ze7 (s := V2) .val rfl (V_v rfl rfl) (Nat.lt_of_lt_of_le (List.mem_range'_1.mp hn).2 R.le) F.n7, rfl⟩
      unfold Sl
      rw [List.map_map]
      exact this
    have hlast : r + c - 1 < T.length := Nat.lt_of_lt_of_le (Nat.sub_lt (Nat.lt_of_lt_of_le h0 (Nat.le_add_left _ _)) Nat.one_pos) R.le
    have e12 := C.h12 (LT.l (L := Sl T r c)) (ze8 (Nat.le_refl _) (Nat.lt_add_of_pos_right h0)) (ze8 (Nat.le_sub_one_of_lt (Nat.lt_add_of_pos_right h0)) (Nat.sub_lt (Nat.lt_of_lt_of_le h0 (Nat.le_add_left _ _)) Nat.one_pos)) (Nat.le_trans (F.at hlast).len (by decide)) fun n hn => (Sl_hd F R.le h0 n hn).1
    rw [R.hd] at e12
    have c4 : evT cf (.op .ne (.cons (.call 12 (.cons (.comp 19 (.seqI (.dGet 5 (.var 7))) (.const (.bool true)) (.op .index (.cons (.var 2) (.cons (.var 19) .nil)))) .nil)) (.cons (.var 7) .nil))) (LL f6) = some false :=
      T_of (V_op2 (zbV (zaq cm rfl) rfl e12) (V_v rfl g7) zfz)
    refine ⟨f6, hs ++ [hd4 T i j], ?_, ⟨I.g1, .val, rfl, I.g6⟩, mem, by rw [List.length_append]; exact Nat.le_refl _, rfl, rfl, rfl⟩
    exact R_ite c1 (R_tt (R_seq (zah a1 rfl) (zaf (R_seq (R_seq z1 (zaf d1)) (zaf (R_seq (R_seq z2 (zaf (R_ite c2 (R_ff zao)))) (zaf (R_seq (zah a2 rfl) (zaf (R_seq (R_ite c3 (R_ff zao)) (zaf (R_seq (R_seq z3 (zaf (R_ite c4 (R_ff zao)))) (zaf zao)))))))))))))
end
noncomputable def trB : S := (.seq trA (.seq (.assign 10 (.op .slice (.cons (.var 2) (.cons (.var 6) (.cons (.op .add (.cons (.var 8) (.cons (.const (.int 1)) .nil))) .nil))))) (.seq (.ite trC (.seq (.ret (.const (.bool false))) .skip) .skip) (.seq trD (.seq (.ite trE (.seq (.ret (.const (.bool false))) .skip) .skip) (.seq (.assign 13 trF) (.seq (.ite trG (.seq (.ret (.const (.bool false))) .skip) .skip) .skip)))))))
noncomputable def otB : S := (.seq (.assign 7 (.op .index (.cons (.var 2) (.cons (.var 6) .nil)))) (.seq (.forE 8 (.rangeI (.cons (.var 6) (.cons (.op .len (.cons (.var 2) .nil)) .nil))) trB) .skip))
theorem zk5 {x : List Nat} : opF .notin [.str x, .tup [.str [], .str [47]]] = some (.val (.bool (!(decide (x = []) || decide (x = [47]))))) := by
  have e : inD (.str x) (.tup [.str [], .str [47]]) = some (decide (x = []) || decide (x = [47])) := by
    show some ((D.toPys [.str [], .str [47]]).any fun y => PyData.eqv y (D.str x).toPy) = _
    simp only [D.toPys, List.any_cons, List.any_nil, zko, Bool.or_false]
    rw [decide_eq_decide.mpr (eq_comm (a := []) (b := x)), decide_eq_decide.mpr (eq_comm (a := [47]) (b := x))]
  show ((inD (.str x) (.tup [.str [], .str [47]])).map (!·)).map (fun x => R.val (.bool x)) = _
  rw [e]; rfl
noncomputable def goes (h t : Tx) : Bool := !(decide ((t.drop h.length).take 1 = []) || decide ((t.drop h.length).take 1 = [47]))
theorem zj6 {h t : Tx} (hp : h <+: t) : ¬ goes h t = true ↔ Hd h t := by
  obtain ⟨r, rfl⟩ := hp
  unfold goes Hd
  rw [List.drop_left' rfl, Bool.not_eq_true', Bool.not_eq_false, Bool.or_eq_true, decide_eq_true_eq, decide_eq_true_eq]
  cases r with
  | nil => exact ⟨fun _ => .inl (List.append_nil h), fun _ => .inl rfl⟩
  | cons c r =>
    constructor
    · rintro (q | q)
      · cases q
      · cases q; exact .inr ⟨r, rfl⟩
    · rintro (q | ⟨r', q⟩)
      · exact absurd (List.append_right_eq_self.mp q) (List.cons_ne_nil _ _)
      · have := (List.cons.inj (List.append_cancel_left q)).1
        rw [this]; exact .inr rfl
section
variable {cf : CfT} {f : Nat → Slot} {T hs : List Tx} {i j : Nat}
theorem trE_ev (I : I4 T hs i f) (hij : i ≤ j) (hj : j < T.length) (hm : hd4 T i j ∈ hs) (g7 : f 7 = .val (.str (hd4 T i j))) (g8 : f 8 = .val (nI j)) : evT cf trE (LL f) = some false := by
  have dg : ev cf (.dGet 5 (.var 7)) (LL f) = some [.val (.list ((Rw T (hd4 T i j)).map nI))] := zkI (s := f 5) (by rw [I.g5]; exact DV.own) rfl (V_v rfl g7) hm
  unfold trE
  exact T_of (V_or (p := false) (q := false) (V_op2 (V_v rfl I.g6) dg (zdG (mem_Rw.mpr ⟨Nat.lt_of_le_of_lt hij hj, zbK _ _⟩))) (V_op2 (V_v rfl g8) dg (zdG (mem_Rw.mpr ⟨hj, zco _ _⟩))))
theorem trF_ev {S : List Tx} {h : Tx} (hS : ∀ t ∈ S, h <+: t) (hl : h.length ≤ 100) (g7 : f 7 = .val (.str h)) (g10 : f 10 = .val (.list (S.map .str))) : ∃ e, ev1 cf trF (LL f) = some (.bool e) ∧ (e = true ↔ ∀ t ∈ S, Hd h t) := by
  refine ⟨decide (S.filter (goes h) = []), ?_, ?_⟩
  · unfold trF
    have s : opF .add [nI h.length, .int 1] = some (.val (nI (h.length + 1))) := rfl
    refine E_of (V_op2 (zep (l := S) (g := D.str) (v := D.str) (p := goes h) (zcO (V_v rfl g10) rfl rfl) fun t ht => ?_) rfl (o_eq_nD (b := []))) rfl
    refine zcQ (V_op2 (a := .val (.str ((t.drop h.length).take 1))) (b := .val (.tup [.str [], .str [47]])) (V_op3 (V_v rfl rfl) (V_op1 (V_v rfl g7) zcU) (V_op2 (V_op1 (V_v rfl g7) zcU) rfl s) ?_) rfl zk5) (fun _ => V_v rfl rfl) rfl
    obtain ⟨r, rfl⟩ := hS t ht
    rw [List.drop_left' rfl]
    exact zjy hl
  · rw [decide_eq_true_eq, List.filter_eq_nil_iff]
    exact ⟨fun q t ht => (zj6 (hS t ht)).mp (q t ht), fun q t ht => (zj6 (hS t ht)).mpr (q t ht)⟩
theorem trG_ev (C : CF04 cf) {S : List Tx} {a b : Tx} (hp : ∀ t ∈ S, PT t) (ha : a ∈ S) (hb : b ∈ S) (hS : ∀ t ∈ S, lc a b <+: t) {e : Bool} (he : e = true ↔ ∀ t ∈ S, Hd (lc a b) t) (g7 : f 7 = .val (.str (lc a b))) (g10 : f 10 = .val (.list (S.map .str))) (g13 : f 13 = .val (.bool e)) : evT cf trG (LL f) = some false := by
  obtain ⟨x, e1, e2, e3⟩ := C.h13 hp ha hb hS e he
  unfold trG
  refine T_of (V_op2 (b := .val (.str x)) (zbV (zaq (V_v rfl g10) rfl) rfl e1) ?_ zfz)
  cases e with
  | true =>
    rw [e2 rfl]
    exact zlA (V_v rfl g13) (V_v rfl g7)
  | false => exact zlB (V_v rfl g13) (zbV (zaq (V_v rfl g7) rfl) rfl (e3 rfl))
theorem tr_turn (C : CF04 cf) (F : TF T) (I : I4 T hs i f) (hij : i ≤ j) (hj : j < T.length) (hl : hs.length ≤ 1000) (g7 : f 7 = .val (.str (hd4 T i (if j = i then i else j - 1)))) :
    ∃ f' hs', ex cf trB (LL (upd f 8 (.val (nI j)))) = some (LL f', .next) ∧ I4 T hs' i f' ∧ hs'.length ≤ hs.length + 1 ∧ f' 7 = .val (.str (hd4 T i j)) := by
  obtain ⟨f1, x1, I1, a8, a7⟩ := trA_ex (f := upd f 8 (.val (nI j))) C F ⟨I.g1, I.g2, I.g5, I.g6⟩ hij hj rfl g7
  obtain ⟨k, hk⟩ : ∃ k, i + k = j + 1 := ⟨_, Nat.add_sub_cancel' (Nat.le_succ_of_le hij)⟩
  have h0 : 0 < k := by
    rcases Nat.eq_zero_or_pos k with h | h
    · rw [h, Nat.add_zero] at hk
      exact absurd hij (hk ▸ Nat.not_succ_le_self j)
    · exact h
  have hkT : i + k ≤ T.length := hk ▸ hj
  have e1 : i + k - 1 = j := by rw [hk]; rfl
  let f2 := upd f1 10 (.val (.list ((Sl T i k).map .str)))
  have s10 : ev1 cf (.op .slice (.cons (.var 2) (.cons (.var 6) (.cons (.op .add (.cons (.var 8) (.cons (.const (.int 1)) .nil))) .nil)))) (LL f1) = some (.list ((Sl T i k).map .str)) := by
    obtain ⟨r, q1, q2⟩ := V_lv (cf := cf) (ρ := LL f1) (i := 2) I1.g2 rfl rfl
    have s : opF .add [nI j, .int 1] = some (.val (nI (i + k))) := by rw [hk]; rfl
    refine E_of (a := .own ((Sl T i k).map .str)) (V_op3 q1 (V_v rfl I1.g6) (V_op2 (V_v rfl a8) rfl s) ?_) rfl
    rw [q2]
    exact o_some hkT F.n7
  have b7 : f2 7 = .val (.str (hd4 T i (i + k - 1))) := e1.symm ▸ a7
  have c1 : evT cf trC (LL f2) = some false := trC_ev C F hkT h0 b7 rfl
  obtain ⟨f3, hs3, x3, I3, m3, l3, b37, b38, b310⟩ := trD_ex (f := f2) C F ⟨I1.g1, I1.g2, I1.g5, I1.g6⟩ hij hj hl a7
  have c7 : f3 7 = .val (.str (hd4 T i j)) := b37.trans a7
  have c8 : f3 8 = .val (nI j) := b38.trans a8
  have c10 : f3 10 = .val (.list ((Sl T i k).map .str)) := b310
  have c2 := trE_ev (cf := cf) I3 hij hj m3 c7 c8
  have hS : ∀ t ∈ Sl T i k, hd4 T i j <+: t := fun t ht => e1 ▸ (Sl_hd F hkT h0 t ht).2
  obtain ⟨e, x4, he⟩ := trF_ev (cf := cf) (f := f3) hS (Nat.le_trans (zhP (j := j) F (Nat.lt_of_le_of_lt hij hj)).2 (by decide)) c7 c10
  let f4 := upd f3 13 (.val (.bool e))
  have hp : ∀ t ∈ Sl T i k, PT t := fun t ht => by
    obtain ⟨n, _, h2, rfl⟩ := zlP ht
    exact F.at (Nat.lt_of_lt_of_le h2 hkT)
  have c3 : evT cf trG (LL f4) = some false := trG_ev (f := f4) C hp (ze8 (Nat.le_refl _) (Nat.lt_add_of_pos_right h0)) (ze8 hij (hk ▸ Nat.lt_succ_self j)) hS he c7 c10 rfl
  refine ⟨f4, hs3, ?_, ⟨I3.g1, I3.g2, I3.g5, I3.g6⟩, l3, c7⟩
  unfold trB
  exact R_seq x1 (zaf (R_seq (zah (ρ' := LL f2) s10 rfl) (zaf (R_seq (R_ite c1 (R_ff zao)) (zaf (R_seq x3 (zaf (R_seq (R_ite c2 (R_ff zao)) (zaf (R_seq (zah (ρ' := LL f4) x4 rfl) (zaf (R_seq (R_ite c3 (R_ff zao)) (zaf zao)))))))))))))
theorem ot_loop (C : CF04 cf) (F : TF T) (g1 : f 1 = .val (.tok 0)) (g2 : LV (T.map .str) (f 2)) (g5 : f 5 = .own []) :
    ∃ (f' : Nat → Slot) (hs : List Tx), forGo (put1 6) (ex cf otB) ((List.range' 0 T.length).map nI) (LL f) = some (LL f', .next) ∧ f' 1 = .val (.tok 0) ∧ f' 5 = .own (hs.map (rowD T)) := by
  obtain ⟨_, e, f', hs, rfl, h1, _, h5, _⟩ := zef (cf := cf) (i := 6) (b := otB) (I := fun i ρ => ∃ (f : Nat → Slot) (hs : List Tx), ρ = LL f ∧ f 1 = .val (.tok 0) ∧ LV (T.map .str) (f 2) ∧ f 5 = .own (hs.map (rowD T)) ∧ hs.length ≤ 10 * i) (a := 0) (m := T.length) (ρ := LL f) ⟨f, [], rfl, g1, g2, g5, Nat.le_refl _⟩ fun i ρ _ hi J => by
    obtain ⟨f, hs, rfl, g1, g2, g5, hl⟩ := J
    rw [Nat.zero_add] at hi
    let f1 := upd (upd f 6 (.val (nI i))) 7 (.val (.str (T.getD i [])))
    have I1 : I4 T hs i f1 := ⟨g1, g2, g5, rfl⟩
    have a1 : ev1 cf (.op .index (.cons (.var 2) (.cons (.var 6) .nil))) (LL (upd f 6 (.val (nI i)))) = some (.str (T.getD i [])) := E_of (ze7 (s := f 2) g2 rfl (V_v rfl rfl) hi F.n7) rfl
    have rg : evI cf (.rangeI (.cons (.var 6) (.cons (.op .len (.cons (.var 2) .nil)) .nil))) (LL f1) = some ((List.range' i (T.length - i)).map nI) :=
      I_of (zb6 (rs := [.val (nI i), .val (nI T.length)]) (zaq (V_v rfl rfl) (zaq (zh7 (s := f 2) g2 rfl) rfl)) (zd2 (F.m (Nat.le_of_lt hi)) (F.m (Nat.le_refl _))))
    obtain ⟨_, e, f', hs', rfl, I', hl'⟩ := zef (cf := cf) (i := 8) (b := trB) (I := fun j ρ => ∃ (f : Nat → Slot) (hs : List Tx), ρ = LL f ∧ I4 T hs i f ∧ hs.length ≤ 10 * i + j ∧ f 7 = .val (.str (hd4 T i (if j = i then i else j - 1)))) (a := i) (m := T.length - i) (ρ := LL f1) ⟨f1, hs, rfl, I1, Nat.le_trans hl (Nat.le_add_right _ _), by rw [if_pos rfl]; exact congrArg (fun t => Slot.val (.str t)) (zjV _).symm⟩ fun j ρ hij hj J => by
      obtain ⟨f, hs, rfl, I, hl, g7⟩ := J
      rw [Nat.add_sub_cancel' (Nat.le_of_lt hi)] at hj
      have h7 : ∀ {n}, n < T.length → n ≤ 7 := fun h => Nat.le_trans (Nat.le_of_lt h) F.n7
      obtain ⟨f', hs', e, I', hl', g7'⟩ := tr_turn C F I hij hj (Nat.le_trans hl (Nat.le_trans (Nat.add_le_add (Nat.mul_le_mul_left 10 (h7 hi)) (h7 hj)) (by decide))) g7
      refine ⟨LL f', .next, e, .inl rfl, f', hs', rfl, I', Nat.le_trans hl' (Nat.succ_le_succ hl), ?_⟩
      rw [if_neg fun q : j + 1 = i => absurd hij (q ▸ Nat.not_succ_le_self j)]
      exact g7'
    refine ⟨LL f', .next, ?_, .inl rfl, f', hs', rfl, I'.g1, I'.g2, I'.g5, ?_⟩
    · unfold otB
      exact R_seq (zah (ρ' := LL f1) a1 rfl) (zaf (R_seq (R_for rg e) (zaf zao)))
    · rw [Nat.add_sub_cancel' (Nat.le_of_lt hi)] at hl'
      exact Nat.le_trans hl'.1 (Nat.add_le_add_left (Nat.le_trans F.n7 (by decide)) _)
  exact ⟨f', hs, e, h1, h5⟩
end
noncomputable def ltB : S := (.seq (.assign 16 (.comp 21 (.seqI (.dGet 5 (.var 14))) (.op .in_ (.cons (.var 21) (.cons (.dGet 5 (.var 15)) .nil))) (.var 21))) (.seq (.ite (.and (.op .ne (.cons (.var 16) (.cons (.list .nil) .nil))) (.and (.op .ne (.cons (.var 16) (.cons (.dGet 5 (.var 14)) .nil))) (.op .ne (.cons (.var 16) (.cons (.dGet 5 (.var 15)) .nil))))) (.seq (.ret (.const (.bool false))) .skip) .skip) .skip))
noncomputable def lsB : S := (.seq (.forE 15 (.dKeys 5) ltB) .skip)
noncomputable def dpB : S := (.seq (.assign 4 (.call 18 (.cons (.op .add (.cons (.op .abs (.cons (.op .sum (.cons (.op .slice3 (.cons (.var 0) (.cons (.var 3) (.cons (.const .none) (.cons (.const (.int 7)) .nil))))) .nil)) .nil)) (.cons (.op .index (.cons (.tup (.cons (.const (.int 10)) (.cons (.const (.int 30)) (.cons (.const (.int 145)) (.cons (.const (.int 770)) (.cons (.const (.int 695)) (.cons (.const (.int 17)) (.cons (.const (.int 1)) .nil)))))))) (.cons (.var 3) .nil))) .nil))) .nil))) (.seq (.ite (.op .notin (.cons (.var 4) (.cons (.var 2) .nil))) (.seq (.append 2 (.var 4)) .skip) .skip) .skip))
section
variable {cf : CfT} {f : Nat → Slot} {T hs : List Tx}
theorem lt_turn {g h : Tx} (hg : g ∈ hs) (hh : h ∈ hs) (g5 : f 5 = .fdic (hs.map (rowD T))) (g14 : f 14 = .val (.str g)) (g15 : f 15 = .val (.str h)) : ∃ v, ex cf ltB (LL f) = some (LL (upd f 16 v), .next) := by
  have dg : ∀ {ρ : List Slot} {k : Nat} {s : Slot} {x : Tx}, ρ[5]? = some (f 5) → ρ[k]? = some s → s = .val (.str x) → x ∈ hs → ev cf (.dGet 5 (.var k)) ρ = some [.val (.list ((Rw T x).map nI))] := fun q5 qk e hx => zkI (s := f 5) (by rw [g5]; exact DV.fz) q5 (V_v qk e) hx
  let AL := (Rw T g).filter fun n => decide (n ∈ Rw T h)
  let f1 := upd f 16 (.val (.list (AL.map nI)))
  have a1 : ev1 cf (.comp 21 (.seqI (.dGet 5 (.var 14))) (.op .in_ (.cons (.var 21) (.cons (.dGet 5 (.var 15)) .nil))) (.var 21)) (LL f) = some (.list (AL.map nI)) :=
    E_of (zep (g := nI) (v := nI) (p := fun n => decide (n ∈ Rw T h)) (zcO (dg rfl rfl g14 hg) rfl rfl) fun n _ => zcQ (V_op2 (V_v rfl rfl) (dg (ρ := (LL f).set 21 (.val (nI n))) rfl rfl g15 hh) zhh) (fun _ => V_v rfl rfl) rfl) rfl
  have d14 := dg (ρ := LL f1) (k := 14) rfl rfl g14 hg
  have d15 := dg (ρ := LL f1) (k := 15) rfl rfl g15 hh
  have c : evT cf (.and (.op .ne (.cons (.var 16) (.cons (.list .nil) .nil))) (.and (.op .ne (.cons (.var 16) (.cons (.dGet 5 (.var 14)) .nil))) (.op .ne (.cons (.var 16) (.cons (.dGet 5 (.var 15)) .nil))))) (LL f1) = some false := by
    have := T_of (V_and (V_op2 (b := .own []) (V_v (ρ := LL f1) (i := 16) rfl rfl) (cf := cf) (y := .list .nil) rfl (o_ne_ints (a := AL) (b := []))) fun _ => V_and (V_op2 (V_v (i := 16) rfl rfl) d14 (o_ne_ints (a := AL))) fun _ => V_op2 (V_v (i := 16) rfl rfl) d15 (o_ne_ints (a := AL)))
    rw [this]
    rcases zjf T g h with e | e | e
    · rw [decide_eq_true (show AL = [] from e)]; rfl
    · rw [decide_eq_true (show AL = Rw T g from e)]; simp
    · rw [decide_eq_true (show AL = Rw T h from e)]; simp
  refine ⟨.val (.list (AL.map nI)), ?_⟩
  unfold ltB
  exact R_seq (zah (ρ' := LL f1) a1 rfl) (zaf (R_seq (R_ite c (R_ff zao)) (zaf zao)))
theorem zkH {ρ : List Slot} {s : Slot} (e : ρ[5]? = some s) (hs' : s = .fdic (hs.map (rowD T))) : evI cf (.dKeys 5) ρ = some (hs.map D.str) := by
  refine I_of ?_
  rw [zgA]
  have : dicFz ρ 5 = some (hs.map (rowD T)) := by unfold dicFz; rw [e, hs']; rfl
  rw [this]
  show some [R.val (.list ((hs.map (rowD T)).map keyD))] = _
  rw [List.map_map]; rfl
theorem ls_loop (g5 : f 5 = .fdic (hs.map (rowD T))) : ∃ f', forGo (put1 14) (ex cf lsB) (hs.map D.str) (LL f) = some (LL f', .next) := by
  obtain ⟨_, e, f', rfl, _⟩ := zhi (cf := cf) (i := 14) (b := lsB) (I := fun ρ => ∃ f : Nat → Slot, ρ = LL f ∧ f 5 = .fdic (hs.map (rowD T))) (l := hs.map D.str) (ρ := LL f) ⟨f, rfl, g5⟩ fun d hd ρ J => by
    obtain ⟨f, rfl, g5⟩ := J
    obtain ⟨g, hg, rfl⟩ := List.mem_map.mp hd
    obtain ⟨_, e, f', rfl, h5, _⟩ := zhi (cf := cf) (i := 15) (b := ltB) (I := fun ρ => ∃ f : Nat → Slot, ρ = LL f ∧ f 5 = .fdic (hs.map (rowD T)) ∧ f 14 = .val (.str g)) (l := hs.map D.str) (ρ := LL (upd f 14 (.val (.str g)))) ⟨_, rfl, g5, rfl⟩ fun d hd ρ J => by
      obtain ⟨f, rfl, g5, g14⟩ := J
      obtain ⟨h, hh, rfl⟩ := List.mem_map.mp hd
      obtain ⟨v, e⟩ := lt_turn (cf := cf) (f := upd f 15 (.val (.str h))) hg hh g5 g14 rfl
      exact ⟨LL (upd (upd f 15 (.val (.str h))) 16 v), e, _, rfl, g5, g14⟩
    refine ⟨LL f', ?_, f', rfl, h5⟩
    unfold lsB
    exact R_seq (R_for (zkH (s := f 5) rfl g5) e) (zaf zao)
  exact ⟨f', e⟩
theorem zis {t : Tx} {P : List Tx} : ∃ b, opF .notin [.str t, .list (P.map .str)] = some (.val (.bool b)) := by
  have : inD (.str t) (.list (P.map .str)) = some ((D.toPys (P.map .str)).any fun y => PyData.eqv y (D.str t).toPy) := by
    show (if (D.oks 8 (P.map .str) && (D.str t).ok 9) = true then _ else _) = _
    rw [zg7]; rfl
  refine ⟨!((D.toPys (P.map .str)).any fun y => PyData.eqv y (D.str t).toPy), ?_⟩
  show ((inD (.str t) (.list (P.map .str))).map (!·)).map (fun x => R.val (.bool x)) = _
  rw [this]; rfl
noncomputable def S04 (ns : List Int) (k : Nat) : Nat := (pick ns (some (k : Int)) none (some 7)).sum.natAbs
set_option genInjectivity false in
structure D4 (ns : List Int) (P : List Tx) (f : Nat → Slot) : Prop where
  g0 : f 0 = .val (.list (ns.map .int))
  g1 : f 1 = .val (.tok 0)
  g2 : f 2 = .own (P.map .str)
  na : NA f
  pt : ∀ t ∈ P, PT t
theorem zjA {i : Nat} (na : NA f) : noApp i (LL f) = true := by
  rw [zbY]
  unfold LL
  simp only [List.all_cons, List.all_nil, na _ i, zbe, Bool.and_true]
theorem dp_loop (C : CF04 cf) {ns : List Int} (E : D4 ns [] f) : ∃ f' P, forGo (put1 3) (ex cf dpB) ((List.range' 0 7).map nI) (LL f) = some (LL f', .next) ∧ D4 ns P f' ∧ P.length ≤ 7 := by
  obtain ⟨_, e, f', P, rfl, E', hl⟩ := zef (cf := cf) (i := 3) (b := dpB) (I := fun k ρ => ∃ (f : Nat → Slot) (P : List Tx), ρ = LL f ∧ D4 ns P f ∧ P.length ≤ k) (a := 0) (m := 7) (ρ := LL f) ⟨f, [], rfl, E, Nat.le_refl _⟩ fun k ρ _ hk J => by
    obtain ⟨f, P, rfl, E, hl⟩ := J
    rw [Nat.zero_add] at hk
    obtain ⟨t, et, ht⟩ := C.h18 (S04 ns k + ([10, 30, 145, 770, 695, 17, 1] : List Nat).getD k 0)
    let f2 := upd (upd f 3 (.val (nI k))) 4 (.val (.str t))
    have i2 := tupn_at (l := [10, 30, 145, 770, 695, 17, 1]) (k := k) hk (Nat.le_trans (Nat.le_of_lt hk) (by decide))
    have g0 : (upd f 3 (.val (nI k))) 0 = .val (.list (ns.map .int)) := E.g0
    have a4 : ev1 cf (.call 18 (.cons (.op .add (.cons (.op .abs (.cons (.op .sum (.cons (.op .slice3 (.cons (.var 0) (.cons (.var 3) (.cons (.const .none) (.cons (.const (.int 7)) .nil))))) .nil)) .nil)) (.cons (.op .index (.cons (.tup (.cons (.const (.int 10)) (.cons (.const (.int 30)) (.cons (.const (.int 145)) (.cons (.const (.int 770)) (.cons (.const (.int 695)) (.cons (.const (.int 17)) (.cons (.const (.int 1)) .nil)))))))) (.cons (.var 3) .nil))) .nil))) .nil)) (LL (upd f 3 (.val (nI k)))) = some (.str t) :=
      E_of (zbV (zaq (V_op2 (V_op1 (V_op1 (V_op (zaq (V_v rfl g0) (zaq (V_v rfl rfl) (zaq rfl (zaq rfl rfl)))) (zk4 (ns := ns) (k := k) (n := 7) (Nat.le_trans (Nat.le_of_lt hk) (by decide)) (by decide) (by decide))) o_sumi) o_absi) (V_op2 (a := .val (.tup (([10, 30, 145, 770, 695, 17, 1] : List Nat).map fun (n : Nat) => .int (n : Int)))) rfl (V_v rfl rfl) i2) (zlM (a := S04 ns k))) rfl) rfl et) rfl
    obtain ⟨b, eb⟩ := zis (t := t) (P := P)
    have g2 : f2 2 = .own (P.map .str) := E.g2
    obtain ⟨r, q1, q2⟩ := V_lv (cf := cf) (ρ := LL f2) (i := 2) (l := P.map .str) (s := f2 2) (by rw [g2]; exact LV.own) rfl rfl
    have c : evT cf (.op .notin (.cons (.var 4) (.cons (.var 2) .nil))) (LL f2) = some b := T_of (V_op2 (V_v rfl rfl) q1 (by rw [q2]; exact eb))
    have na2 : NA f2 := (E.na.upd fun _ => rfl).upd fun _ => rfl
    cases b with
    | false =>
      refine ⟨LL f2, .next, ?_, .inl rfl, f2, P, rfl, ⟨E.g0, E.g1, E.g2, na2, E.pt⟩, Nat.le_succ_of_le hl⟩
      unfold dpB
      exact R_seq (zah (ρ' := LL f2) a4 rfl) (zaf (R_seq (R_ite c (R_ff zao)) (zaf zao)))
    | true =>
      let f3 := upd f2 2 (.own ((P ++ [t]).map .str))
      have ap : ex cf (.append 2 (.var 4)) (LL f2) = some (LL f3, .next) := by
        refine zb9 (l := P.map .str) (E_of (V_v rfl rfl) rfl) ?_ ?_ ?_
        · show (match some (f 2) with | some (.own l) => if dSlot 2 then none else some l | _ => none) = _
          rw [E.g2]; rfl
        · rw [List.length_map]; exact Nat.lt_of_le_of_lt (Nat.le_trans hl (Nat.le_of_lt hk)) (by decide)
        · show _ = LL (upd f2 2 (.own ((P ++ [t]).map .str)))
          rw [List.map_append]; rfl
      refine ⟨LL f3, .next, ?_, .inl rfl, f3, P ++ [t], rfl, ⟨E.g0, E.g1, rfl, na2.upd fun _ => rfl, fun x hx => ?_⟩, by rw [List.length_append]; exact Nat.succ_le_succ hl⟩
      · unfold dpB
        exact R_seq (zah (ρ' := LL f2) a4 rfl) (zaf (R_seq (R_ite c (R_tt (R_seq ap (zaf zao)))) (zaf zao)))
      · rcases List.mem_append.mp hx with h | h
        · exact E.pt x h
        · rw [List.mem_singleton.mp h]; exact ht
  exact ⟨f', P, e, E', hl⟩
end
theorem ziw (ns : List Int) : ∃ ρ', ex (callF fns04 40) s_law [.val (.list (ns.map .int)), .val (.tok 0), .unset, .unset, .unset, .unset, .unset, .unset, .unset, .unset, .unset, .unset, .unset, .unset, .unset, .unset, .unset, .unset, .unset, .unset, .unset, .unset] = some (ρ', .ret (.bool true)) := by
  have C := cf04
  generalize callF fns04 40 = cf at C
  let f0 : Nat → Slot := fun k => if k = 0 then .val (.list (ns.map .int)) else if k = 1 then .val (.tok 0) else .unset
  have n0 : NA f0 := fun i k => by
    show appOK k (if i = 0 then _ else if i = 1 then _ else _) = true
    split
    · rfl
    · split <;> rfl
  let f1 := upd f0 2 (.own [])
  obtain ⟨f2, P, l2, E2, hP⟩ := dp_loop (f := f1) C ⟨rfl, rfl, rfl, n0.upd fun _ => rfl, fun _ h => nomatch h⟩
  have hl : (sortS P).length = P.length := (zbz P).length_eq
  have F : TF (sortS P) := ⟨fun t ht => E2.pt t ((zbz P).mem_iff.mp ht), zfj P, hl.symm ▸ hP⟩
  obtain ⟨T, hT⟩ : ∃ T, T = sortS P := ⟨_, rfl⟩
  rw [← hT] at F
  let f3 := upd f2 2 (.own (T.map .str))
  have n3 : NA f3 := E2.na.upd fun _ => rfl
  have so : opF .sorted [.list (P.map .str)] = some (.own (T.map .str)) := by
    rw [hT]
    show (match toStrs (P.map .str) with | some ls => if ls.length < 64 then some (R.own ((sortS ls).map .str)) else none | none => none) = _
    rw [zcu]
    exact if_pos (Nat.lt_of_le_of_lt hP (by decide))
  obtain ⟨r, q1, q2⟩ := V_lv (cf := cf) (ρ := LL f2) (i := 2) (l := P.map .str) (s := f2 2) (by rw [E2.g2]; exact LV.own) rfl rfl
  have a3 : ex cf (.assignO 2 (.op .sorted (.cons (.var 2) .nil))) (LL f2) = some (LL f3, .next) := zbj (zjA E2.na) (V_op1 q1 (by rw [q2]; exact so)) rfl
  let f4 := upd f3 5 (.own [])
  have a4 : ex cf (.dNew 5) (LL f3) = some (LL f4, .next) := by
    rw [zhW, zjA n3]; rfl
  obtain ⟨f5, hs, l5, h1, h5⟩ := ot_loop (f := f4) C F E2.g1 .own rfl
  let f6 := upd f5 5 (.fdic (hs.map (rowD T)))
  have a6 : ex cf (.dFz 5) (LL f5) = some (LL f6, .next) := by
    rw [zkg]
    have : dicOwn (LL f5) 5 = some (hs.map (rowD T)) := by
      show (if dSlot 5 = true then (some (f5 5)).bind ownS else none) = _
      rw [h5]; rfl
    rw [this]; rfl
  obtain ⟨f7, l7⟩ := ls_loop (cf := cf) (f := f6) (T := T) (hs := hs) rfl
  have r7 : evI cf (.rangeI (.cons (.const (.int 7)) .nil)) (LL f1) = some ((List.range' 0 7).map nI) := I_of (zb6 (zaq rfl rfl) (zbX (n := 7) (by decide)))
  have rT : evI cf (.rangeI (.cons (.op .len (.cons (.var 2) .nil)) .nil)) (LL f4) = some ((List.range' 0 T.length).map nI) := I_of (zb6 (zaq (zh7 (T := T) (s := f4 2) .own rfl) rfl) (zbX (F.m (Nat.le_refl _))))
  show ∃ ρ', ex cf s_law (LL f0) = _
  unfold dpB at l2
  unfold otB trB trA trC trD trE trF trG at l5
  unfold lsB ltB at l7
  unfold s_law
  exact ⟨LL f7, R_seq (zbj (ρ' := LL f1) (zjA n0) (l := []) rfl rfl) (zaf (R_seq (R_for r7 l2) (zaf (R_seq a3 (zaf (R_seq a4 (zaf (R_seq (R_for rT l5) (zaf (R_seq (R_seq a6 (zaf (R_for (zkH (s := f6 5) rfl rfl) l7))) (zaf (R_seq (R_ret rfl) zam))))))))))))⟩
end Mine
end
open PySem PySem.Calls PyProof.Rows PySem.Builtin.Str PySem.W PySem.W.X PySem.W.ZRun
namespace Mine
noncomputable abbrev fa04 : Nat → Addr := fun i => ([142, 149, 111, 156, 0, 0, 163, 0, 0, 0, 0, 0, 118, 168, 175, 180, 0, 0, 192, 0, 0, 0, 0, 0, 0, 0, 185, 199, 0, 0, 0, 0, 0, 0, 0, 204] : List Addr).getD i 0
theorem zeb {β : Type} {x : Nat} {b : β} : ∀ {l : List (Nat × β)}, l.lookup x = some b → (x, b) ∈ l
  | [], e => by cases e
  | (y, c) :: r, e => by
    rw [List.lookup_cons] at e
    cases hx : x == y with
    | true =>
      rw [hx] at e
      cases e
      rw [beq_iff_eq.mp hx]
      exact List.mem_cons_self
    | false =>
      rw [hx] at e
      exact List.mem_cons_of_mem _ (zeb e)
noncomputable def rho04 (ns : List Int) : List Slot := [.val (.list (ns.map .int))] ++ List.replicate 21 .unset
noncomputable abbrev cq04 (w : World) (h : Heap) (mg mb : SV) (T : NAd) : XCx := mkCx PySem.Challenge.rw_dn0069_04.row.prog w h 148 144 qs04 mg mb fa04 T
theorem zg3 (ns : List Int) : PlainRho (rho04 ns) := by
  intro j
  match j with
  | 0 => exact .inr ⟨ns, rfl⟩
  | j + 1 =>
    left
    unfold slotAt rho04
    rw [List.getD_eq_getElem?_getD, List.singleton_append, List.getElem?_cons_succ, List.getElem?_replicate]
    split <;> rfl
theorem ziv (ns : List Int) : ∃ ρ', ex (callF fns04 40) s_law ((rho04 ns).set 1 (.val (.tok 0))) = some (ρ', .ret (.bool true)) :=
  ziw ns
end Mine
set_option maxHeartbeats 0 in
theorem PySem.Challenge.cw_dn0069_04_holds : PySem.Challenge.rw_dn0069_04.Holds := by
  w_on; refine holds_law Mine.said04 fun said => ?_
  refine holds_openX (q := Mine.view04) (loose := [PySem.Str.ofString "_twin_re_1", PySem.Str.ofString "_special_chars_map"]) (Xt := fun s => xlAt Mine.view04 [] s && recOk (RowW.records PySem.Challenge.rw_dn0069_04.row.toRowW) s) (XP := XL Mine.view04 []) (Yf := obsZ Mine.zas) (Ya := valZ Mine.zk 205 704) (N := 5032) ?hl (fun s e => xl_of s (Bool.and_eq_true_iff.mp e).1) XL.keeps (by rfl) (by rfl) (by rfl) (fun s e => recFacts_of (Bool.and_eq_true_iff.mp e).2) (by rfl) (by first | assumption | decide +kernel) (by decide +kernel) ⟨rfl, rfl, rfl, rfl, rfl, by decide +kernel⟩ ?hw ?hc
  case hl => exact Mine.hleft
  case hw => w_witness2
  k_fill
  intro w s₀ s₁ mg mb G y fa o pm cd doc dV kV ho hd hcd hD hmg hg args vals as hL0 hpre hlay hrd hwl hlo
  have Zf := z_facts Mine.zkeys y
  have KX := InK.keeps w s₀.heap s₁.heap Zf.2.1 hL0.keeps
  have ZN := Zf.2.2.1
  refine Ground.open G ?_
  intro T0 B D TE TW
  wrow_args hpre hlay hrd hwl hlo
  obtain ⟨hat, hsz⟩ := script_at hL0
  rw [ZN] at hat hsz
  subst hat
  have hfa := Value.ref.inj (Option.some.inj (hmg.symm.trans (mg_of (v := .ref 204) KX T0.g rfl)))
  subst hfa
  refine enter_call ?_
  have hT : TabsAt [(148, 144)] s₁.heap := List.forall_mem_cons.mpr ⟨⟨codeHd_of_K KX (by kernel_rfl), KX 144 _ rfl⟩, fun _ h => nomatch h⟩
  have X := Mine.zgt (c := 148) (P := 144) KX
  rename IntsAre _ _ => hI
  rename Heap.IsList _ _ _ => hIL
  rename List Int => ns
  have hlen := hI.length
  have hobj := script_obj hL0 hIL
  have hcx : ∀ T, Mine.Inj T → Mine.CxOk (Mine.cq04 w s₁.heap mg mb T) := fun T1 h1 => Mine.cxOk_of hT X T0 (by decide +kernel) rfl (by rfl) h1
  have hN : ∀ T, Mine.GN (Mine.cq04 w s₁.heap mg mb T) Mine.fs04 Mine.bs04 := fun T => Mine.gn_of (List.forall_mem_cons.mpr ⟨mg_of KX T0.g rfl, List.forall_mem_cons.mpr ⟨mg_of KX T0.g rfl, List.forall_mem_cons.mpr ⟨mg_of KX T0.g rfl, List.forall_mem_cons.mpr ⟨mg_of KX T0.g rfl, List.forall_mem_cons.mpr ⟨mg_of KX T0.g rfl, List.forall_mem_cons.mpr ⟨mg_of KX T0.g rfl, List.forall_mem_cons.mpr ⟨mg_of KX T0.g rfl, List.forall_mem_cons.mpr ⟨mg_of KX T0.g rfl, List.forall_mem_cons.mpr ⟨mg_of KX T0.g rfl, List.forall_mem_cons.mpr ⟨mg_of KX T0.g rfl, List.forall_mem_cons.mpr ⟨mg_of KX T0.g rfl, List.forall_mem_cons.mpr ⟨mg_of KX T0.g rfl, List.forall_mem_cons.mpr ⟨mg_of KX T0.g rfl, fun _ h => nomatch h⟩⟩⟩⟩⟩⟩⟩⟩⟩⟩⟩⟩⟩) (List.forall_mem_cons.mpr ⟨mg_none_of KX T0.g rfl, List.forall_mem_cons.mpr ⟨mg_none_of KX T0.g rfl, List.forall_mem_cons.mpr ⟨mg_none_of KX T0.g rfl, List.forall_mem_cons.mpr ⟨mg_none_of KX T0.g rfl, List.forall_mem_cons.mpr ⟨mg_none_of KX T0.g rfl, List.forall_mem_cons.mpr ⟨mg_none_of KX T0.g rfl, List.forall_mem_cons.mpr ⟨mg_none_of KX T0.g rfl, List.forall_mem_cons.mpr ⟨mg_none_of KX T0.g rfl, List.forall_mem_cons.mpr ⟨mg_none_of KX T0.g rfl, List.forall_mem_cons.mpr ⟨mg_none_of KX T0.g rfl, List.forall_mem_cons.mpr ⟨mg_none_of KX T0.g rfl, List.forall_mem_cons.mpr ⟨mg_none_of KX T0.g rfl, List.forall_mem_cons.mpr ⟨mg_none_of KX T0.g rfl, List.forall_mem_cons.mpr ⟨mg_none_of KX T0.g rfl, List.forall_mem_cons.mpr ⟨mg_none_of KX T0.g rfl, List.forall_mem_cons.mpr ⟨mg_none_of KX T0.g rfl, fun _ h => nomatch h⟩⟩⟩⟩⟩⟩⟩⟩⟩⟩⟩⟩⟩⟩⟩⟩)
  have hsp : mg (PySem.Str.ofString "_special_chars_map") = some (.ref 132) := mg_of KX T0.g rfl
  have htw : mg (PySem.Str.ofString "_twin_re_1") = some (.ref 130) := mg_of KX T0.g rfl
  have hTG : ∀ T, ∃ TG : Mine.TabG (Mine.cq04 w s₁.heap mg mb T), TG.d = 132 := fun T => Mine.tabG_of X (Nat.ne_of_beq_eq_false rfl) rfl rfl (by decide +kernel) (by decide +kernel)
  have hPG : ∀ T, ∃ PG : Mine.PatG (Mine.cq04 w s₁.heap mg mb T), PG.P = 130 := fun T => ⟨{ P := 130, C := 129, codes := _, nP := Nat.ne_of_beq_eq_false rfl, nC := Nat.ne_of_beq_eq_false rfl, at0 := ⟨⟨_, _, _, _, _, 0, X 130 _ rfl, rfl⟩, ⟨_, X 129 _ rfl⟩, by decide +kernel⟩ }, rfl⟩
  have hfn : ∀ T, ∀ i fn, Mine.fns04 i = some fn → ∃ ε fd body ps, Mine.FnIs (Mine.cq04 w s₁.heap mg mb T) ε i fn fd body ps ∧ Mine.SoundSs (Mine.cq04 w s₁.heap mg mb T) ε body fn.body := by
    intro T
    obtain ⟨TG, hTGd⟩ := hTG T
    obtain ⟨PG, hPGP⟩ := hPG T
    have all : ∀ p ∈ ([(0, Mine.fn_escape), (1, Mine.fn_translate4), (2, Mine.fn_fspath), (3, Mine.fn_get_sep), (6, Mine.fn_dirname), (12, Mine.fn_commonprefix4), (13, Mine.fn_commonpath), (14, Mine.fn_law_one), (15, Mine.fn_law_takes), (18, Mine.fn_law_drawn), (26, Mine.fn_law_quoted), (27, Mine.fn_law_alike)] : List (Nat × Mine.Fn)), ∃ ε fd body ps, Mine.FnIs (Mine.cq04 w s₁.heap mg mb T) ε p.1 p.2 fd body ps ∧ Mine.SoundSs (Mine.cq04 w s₁.heap mg mb T) ε body p.2.body :=
      List.forall_mem_cons.mpr ⟨⟨_, _, _, _, Mine.FnIs.ofK (cx := (Mine.cq04 w s₁.heap mg mb T)) (ε := Mine.sc_escape) (i := 0) (a := 142) (fn := Mine.fn_escape) (body := (Mine.nthBody PySem.Challenge.pw_dn0069_04 17)) (ps := [PySem.Str.ofString "pattern"]) X rfl (Nat.ne_of_beq_eq_false rfl) rfl (by rfl) (Nat.ne_of_beq_eq_false rfl) (fun c q e => nomatch e) (Mine.zat rfl (Mine.len1 fun _ => rfl)) rfl rfl rfl rfl rfl, Mine.zih (hN T) TG (hTGd ▸ hsp)⟩,
      List.forall_mem_cons.mpr ⟨⟨_, _, _, _, Mine.FnIs.ofK (cx := (Mine.cq04 w s₁.heap mg mb T)) (ε := Mine.sc_translate4 148) (i := 1) (a := 149) (fn := Mine.fn_translate4) (body := (Mine.nthBody PySem.Challenge.pw_dn0069_04 19)) (ps := [PySem.Str.ofString "pat", PySem.Str.ofString "STAR", PySem.Str.ofString "QUESTION_MARK"]) X rfl (Nat.ne_of_beq_eq_false rfl) rfl (by rfl) (Nat.ne_of_beq_eq_false rfl) (fun c q e => by cases e; exact ⟨rfl, rfl⟩) (Mine.zat rfl (Mine.len3 fun _ _ _ => rfl)) rfl rfl rfl rfl rfl, Mine.zev (hN T) (Mine.lamG_of hT T0 (List.pairwise_singleton _ _)) PG (hPGP ▸ htw) rfl⟩,
      List.forall_mem_cons.mpr ⟨⟨_, _, _, _, Mine.FnIs.ofK (cx := (Mine.cq04 w s₁.heap mg mb T)) (ε := Mine.sc_fspath) (i := 2) (a := 111) (fn := Mine.fn_fspath) (body := (Mine.nthBody PySem.Challenge.pw_dn0069_04 10)) (ps := [PySem.Str.ofString "path"]) X rfl (Nat.ne_of_beq_eq_false rfl) rfl (by rfl) (Nat.ne_of_beq_eq_false rfl) (fun c q e => nomatch e) (Mine.zat rfl (Mine.len1 fun _ => rfl)) rfl rfl rfl rfl rfl, Mine.zig (hN T)⟩,
      List.forall_mem_cons.mpr ⟨⟨_, _, _, _, Mine.FnIs.ofK (cx := (Mine.cq04 w s₁.heap mg mb T)) (ε := Mine.sc_get_sep) (i := 3) (a := 156) (fn := Mine.fn_get_sep) (body := (Mine.nthBody PySem.Challenge.pw_dn0069_04 21)) (ps := [PySem.Str.ofString "path"]) X rfl (Nat.ne_of_beq_eq_false rfl) rfl (by rfl) (Nat.ne_of_beq_eq_false rfl) (fun c q e => nomatch e) (Mine.zat rfl (Mine.len1 fun _ => rfl)) rfl rfl rfl rfl rfl, Mine.zgZ (hN T)⟩,
      List.forall_mem_cons.mpr ⟨⟨_, _, _, _, Mine.FnIs.ofK (cx := (Mine.cq04 w s₁.heap mg mb T)) (ε := Mine.sc_dirname) (i := 6) (a := 163) (fn := Mine.fn_dirname) (body := (Mine.nthBody PySem.Challenge.pw_dn0069_04 22)) (ps := [PySem.Str.ofString "p"]) X rfl (Nat.ne_of_beq_eq_false rfl) rfl (by rfl) (Nat.ne_of_beq_eq_false rfl) (fun c q e => nomatch e) (Mine.zat rfl (Mine.len1 fun _ => rfl)) rfl rfl rfl rfl rfl, Mine.zg0 (hN T)⟩,
      List.forall_mem_cons.mpr ⟨⟨_, _, _, _, Mine.FnIs.ofK (cx := (Mine.cq04 w s₁.heap mg mb T)) (ε := Mine.sc_commonprefix4) (i := 12) (a := 118) (fn := Mine.fn_commonprefix4) (body := (Mine.nthBody PySem.Challenge.pw_dn0069_04 12)) (ps := [PySem.Str.ofString "m"]) X rfl (Nat.ne_of_beq_eq_false rfl) rfl (by rfl) (Nat.ne_of_beq_eq_false rfl) (fun c q e => nomatch e) (Mine.zat rfl (Mine.len1 fun _ => rfl)) rfl rfl rfl rfl rfl, Mine.zdl (hN T)⟩,
      List.forall_mem_cons.mpr ⟨⟨_, _, _, _, Mine.FnIs.ofK (cx := (Mine.cq04 w s₁.heap mg mb T)) (ε := Mine.sc_commonpath) (i := 13) (a := 168) (fn := Mine.fn_commonpath) (body := (Mine.nthBody PySem.Challenge.pw_dn0069_04 23)) (ps := [PySem.Str.ofString "paths"]) X rfl (Nat.ne_of_beq_eq_false rfl) rfl (by rfl) (Nat.ne_of_beq_eq_false rfl) (fun c q e => nomatch e) (Mine.zat rfl (Mine.len1 fun _ => rfl)) rfl rfl rfl rfl rfl, Mine.zex (hN T)⟩,
      List.forall_mem_cons.mpr ⟨⟨_, _, _, _, Mine.FnIs.ofK (cx := (Mine.cq04 w s₁.heap mg mb T)) (ε := Mine.sc_law_one) (i := 14) (a := 175) (fn := Mine.fn_law_one) (body := (Mine.nthBody PySem.Challenge.pw_dn0069_04 25)) (ps := [PySem.Str.ofString "part", PySem.Str.ofString "sign"]) X rfl (Nat.ne_of_beq_eq_false rfl) rfl (by rfl) (Nat.ne_of_beq_eq_false rfl) (fun c q e => nomatch e) (Mine.zat rfl (Mine.len2 fun _ _ => rfl)) rfl rfl rfl rfl rfl, Mine.zgY (hN T)⟩,
      List.forall_mem_cons.mpr ⟨⟨_, _, _, _, Mine.FnIs.ofK (cx := (Mine.cq04 w s₁.heap mg mb T)) (ε := Mine.sc_law_takes) (i := 15) (a := 180) (fn := Mine.fn_law_takes) (body := (Mine.nthBody PySem.Challenge.pw_dn0069_04 26)) (ps := [PySem.Str.ofString "parts", PySem.Str.ofString "star", PySem.Str.ofString "name"]) X rfl (Nat.ne_of_beq_eq_false rfl) rfl (by rfl) (Nat.ne_of_beq_eq_false rfl) (fun c q e => nomatch e) (Mine.zat rfl (Mine.len3 fun _ _ _ => rfl)) rfl rfl rfl rfl rfl, Mine.zfk (hN T)⟩,
      List.forall_mem_cons.mpr ⟨⟨_, _, _, _, Mine.FnIs.ofK (cx := (Mine.cq04 w s₁.heap mg mb T)) (ε := Mine.sc_law_drawn) (i := 18) (a := 192) (fn := Mine.fn_law_drawn) (body := (Mine.nthBody PySem.Challenge.pw_dn0069_04 28)) (ps := [PySem.Str.ofString "number"]) X rfl (Nat.ne_of_beq_eq_false rfl) rfl (by rfl) (Nat.ne_of_beq_eq_false rfl) (fun c q e => nomatch e) (Mine.zat rfl (Mine.len1 fun _ => rfl)) rfl rfl rfl rfl rfl, Mine.zfl (hN T)⟩,
      List.forall_mem_cons.mpr ⟨⟨_, _, _, _, Mine.FnIs.ofK (cx := (Mine.cq04 w s₁.heap mg mb T)) (ε := Mine.sc_law_quoted) (i := 26) (a := 185) (fn := Mine.fn_law_quoted) (body := (Mine.nthBody PySem.Challenge.pw_dn0069_04 27)) (ps := [PySem.Str.ofString "text"]) X rfl (Nat.ne_of_beq_eq_false rfl) rfl (by rfl) (Nat.ne_of_beq_eq_false rfl) (fun c q e => nomatch e) (Mine.zat rfl (Mine.len1 fun _ => rfl)) rfl rfl rfl rfl rfl, Mine.zew (hN T)⟩,
      List.forall_mem_cons.mpr ⟨⟨_, _, _, _, Mine.FnIs.ofK (cx := (Mine.cq04 w s₁.heap mg mb T)) (ε := Mine.sc_law_alike) (i := 27) (a := 199) (fn := Mine.fn_law_alike) (body := (Mine.nthBody PySem.Challenge.pw_dn0069_04 29)) (ps := [PySem.Str.ofString "one", PySem.Str.ofString "other"]) X rfl (Nat.ne_of_beq_eq_false rfl) rfl (by rfl) (Nat.ne_of_beq_eq_false rfl) (fun c q e => nomatch e) (Mine.zat rfl (Mine.len2 fun _ _ => rfl)) rfl rfl rfl rfl rfl, Mine.zfm (hN T)⟩,
      fun _ h => nomatch h⟩⟩⟩⟩⟩⟩⟩⟩⟩⟩⟩⟩
    exact fun i fn h => all (i, fn) (Mine.zeb h)
  obtain ⟨ρ', he⟩ := Mine.ziv ns
  have hX : ∀ T, Mine.FnIs (Mine.cq04 w s₁.heap mg mb T) Mine.sc_law 35 Mine.fn_law _ (Mine.nthBody PySem.Challenge.pw_dn0069_04 30) [PySem.Str.ofString "script"] := fun T => Mine.FnIs.ofK (cx := (Mine.cq04 w s₁.heap mg mb T)) (ε := Mine.sc_law) (i := 35) (a := 204) (fn := Mine.fn_law) (body := (Mine.nthBody PySem.Challenge.pw_dn0069_04 30)) (ps := [PySem.Str.ofString "script"]) X rfl (Nat.ne_of_beq_eq_false rfl) rfl (by rfl) (Nat.ne_of_beq_eq_false rfl) (fun c q e => nomatch e) (Mine.zat rfl (Mine.len1 fun _ => rfl)) rfl rfl rfl rfl rfl
  refine Mine.zlh (cx := (Mine.cq04 w s₁.heap mg mb fun k => k)) (i := 35) (i1 := 1) (n := 40) hcx hX (fun T hi => Mine.zfL (hcx T hi) (hfn T) (fun _ => trivial) 40) (fun T => Mine.zbn (x := PySem.Str.ofString "star") rfl (by decide) (Mine.zbk (.cons (Mine.zab rfl) rfl .nil)) (fun _ _ _ => rfl)) (fun T hi => Mine.snd_law (hN T)) (ns := ns) (ρ := Mine.rho04 ns) rfl (Mine.zg3 ns) rfl (Nat.le_of_ble_eq_true rfl) he (s := s₁) (F := fun a => ∃ o, (ghostOf s₁.heap [(148, 144)]).get? a = some o) ⟨rfl, by decide, by decide, ⟨_, rfl⟩⟩ (Mine.wd_of hT rfl hg) ?_ (fun T F' s' wd os => Mine.zj5 hT (fun _ => rfl) (by wrow_post) wd os)
  exact .list ⟨_, ghost_ne hobj (by simp)⟩ hobj (by rw [hlen]; unfold Mine.lim; omega) (Mine.zhN hI)
