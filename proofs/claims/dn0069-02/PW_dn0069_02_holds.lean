import PyProof.Rows.All
import Wide.All
import OpenK.AllK
import Wide.FinOn
import Lean
import PySem.Challenge.RW_dn0069_02
set_option Elab.async false
set_option maxRecDepth 100000
set_option linter.all false
set_option genSizeOf false
set_option bootstrap.genMatcherCode false
section H02x
open PySem PySem.Calls PySem.W PyProof.Rows PySem.Builtin.Str
open PySem.W.X PySem.W.ZRun
set_option maxHeartbeats 0
namespace Mine
theorem wb {M : PySem.Model} {A : PySem.Around} {α β : Type} {E : PySem.Value → PySem.Shared → Prop} {s : PySem.Shared} {m : PySem.Sem α} {f : α → PySem.Sem β} {Q : β → PySem.Shared → Prop} (h : PySem.wpAny M A m (fun a s' => PySem.wpAny M A (f a) Q E s') E s) : PySem.wpAny M A (m >>= f) Q E s := PySem.wpAny_bind h
abbrev VP := PySem.Value → PySem.Shared → Prop
abbrev AP := PySem.Addr → Prop
abbrev SV := PySem.Str → Option PySem.Value
abbrev NAd := Nat → PySem.Addr
noncomputable abbrev tuO (x : Array PySem.Value) : Obj := ⟨.type "tuple", none, .seq x 0, #[]⟩
variable (P : Params)
noncomputable def hGo : List Nat → Option Stmt → Option Stmt
  | [], s => s
  | j :: r, some (.ClassDef _ _ _ b _ _ _ _ _ _ _) => hGo r b[j]?
  | j :: r, some (.FunctionDef _ _ b _ _ _ _ _ _ _) => hGo r b[j]?
  | _, _ => none
noncomputable def hAt (p : Program) (l : List Nat) : Option Stmt := match l with
  | [] => none
  | i :: r => hGo r p.main.body[i]?
noncomputable def hPs (s : Option Stmt) : Arguments := match s with
  | some (.FunctionDef _ a _ _ _ _ _ _ _ _) => a
  | _ => default
noncomputable def hBd (s : Option Stmt) : List Stmt := match s with
  | some (.FunctionDef _ _ b _ _ _ _ _ _ _) => b
  | _ => []
noncomputable def hSc (s : Option Stmt) : Scope := match s with
  | some (.FunctionDef _ _ _ _ _ _ s _ _ _) => s
  | _ => default
noncomputable abbrev hs (x : String) : PySem.Str := PySem.Str.ofString x
noncomputable abbrev hk (P : Params) (x : String) (t : Nat) (v : PySem.Value) : DictEntry := ⟨PyData.keyHash P (hs x), .str (hs x) t, v⟩
noncomputable abbrev hW : Program := PySem.Challenge.pw_dn0069_02
noncomputable def view02 : Program := PySem.W.view PySem.Challenge.pw_dn0069_02 [0, 1, 2, 4, 5, 7, 9, 11, 13, 14, 16, 18, 20, 21, 22, 24, 25, 26, 27, 28, 29]
noncomputable def ho1 : Obj := ⟨.type "dict", none, .dict #[hk P "builtins" 162 (.ref 4), hk P "__main__" 163 (.ref 5), hk P "_sre" 244 (.ref 12)] 3, #[]⟩
noncomputable def ho2 : Obj := ⟨.none, none, .dict #[⟨PyData.keyHash P (⟨#[105, 109, 112, 111, 114, 116, 46, 108, 111, 97, 100, 101, 100, 46, 95, 115, 114, 101]⟩), .str (⟨#[105, 109, 112, 111, 114, 116, 46, 108, 111, 97, 100, 101, 100, 46, 95, 115, 114, 101]⟩) 183, .bool true⟩, hk P "class._frozen_importlib.BuiltinImporter" 185 (.ref 14), ⟨PyData.keyHash P (⟨#[119, 97, 116, 99, 104, 101, 100, 46, 105, 109, 112, 111, 114, 116]⟩), .str (⟨#[119, 97, 116, 99, 104, 101, 100, 46, 105, 109, 112, 111, 114, 116]⟩) 206, .ref 18⟩, hk P "class._frozen_importlib.ModuleSpec" 216 (.ref 22), hk P "sys.modules.booked-epoch" 245 (.int (3) 0), ⟨PyData.keyHash P (⟨#[105, 109, 112, 111, 114, 116, 46, 108, 97, 116, 101, 114, 45, 108, 97, 105, 100, 46, 95, 115, 114, 101]⟩), .str (⟨#[105, 109, 112, 111, 114, 116, 46, 108, 97, 116, 101, 114, 45, 108, 97, 105, 100, 46, 95, 115, 114, 101]⟩) 270, .bool true⟩, hk P "watched.library" 272 (.ref 27), ⟨PyData.keyHash P (hs "watched.library-objects"), .str (hs "watched.library-objects") 0, .str ((⟨#[12]⟩ : PySem.Str)) 0⟩, ⟨PyData.keyHash P (hs "watched.library-deep._sre"), .str (hs "watched.library-deep._sre") 273, .str ((⟨#[4, 0, 0, 11, 4, 0, 0, 11, 4, 0, 0, 3, 4, 0, 0, 11, 8, 4, 100, 105, 99, 116, 2]⟩ : PySem.Str)) 0⟩] 9, #[]⟩
noncomputable def ho3 : Obj := ⟨.type "dict", none, .dict #[hk P "__name__" 165 (.str (hs "__main__") 164), hk P "__doc__" 166 (.none), hk P "__package__" 167 (.none), hk P "__loader__" 168 (.builtin "__main__.__loader__#opaque"), hk P "__spec__" 169 (.none), hk P "__annotations__" 170 (.ref 6), hk P "__builtins__" 171 (.ref 4), hk P "__file__" 173 (.str (hs "/claim/cut.py") 172), hk P "__cached__" 174 (.none), hk P "_sre" 275 (.ref 12)] 10, #[]⟩
noncomputable def ho11 : Obj := ⟨.type "dict", none, .dict #[hk P "__name__" 247 (.str (hs "_sre") 246), hk P "__doc__" 248 (.none), hk P "__package__" 250 (.str (hs "") 249), hk P "__loader__" 251 (.builtin "off-the-table:_sre.__loader__:shared#opaque"), hk P "__spec__" 252 (.builtin "off-the-table:_sre.__spec__:shared#opaque"), hk P "compile" 253 (.builtin "_sre.compile"), hk P "template" 254 (.builtin "off-the-table:_sre.template:shared#opaque"), hk P "getcodesize" 255 (.builtin "off-the-table:_sre.getcodesize:shared#opaque"), hk P "ascii_iscased" 256 (.builtin "off-the-table:_sre.ascii_iscased:shared#opaque"), hk P "unicode_iscased" 257 (.builtin "off-the-table:_sre.unicode_iscased:shared#opaque"), hk P "ascii_tolower" 258 (.builtin "off-the-table:_sre.ascii_tolower:shared#opaque"), hk P "unicode_tolower" 259 (.builtin "off-the-table:_sre.unicode_tolower:shared#opaque"), hk P "MAGIC" 261 (.int (20230612) 260), hk P "CODESIZE" 263 (.int (4) 262), hk P "MAXREPEAT" 265 (.int (4294967295) 264), hk P "MAXGROUPS" 267 (.int (1073741823) 266), hk P "copyright" 269 (.str (hs " SRE 2.2.2 Copyright (c) 1997-2002 by Secret Labs AB ") 268)] 17, #[]⟩
noncomputable def ho12 : Obj := ⟨.type "module", (some 11), .plain, #[]⟩
noncomputable def ho13 : Obj := ⟨.type "dict", none, .dict #[hk P "__module__" 189 (.str (hs "_frozen_importlib") 186), hk P "__firstlineno__" 190 (.int (971) 187), hk P "__doc__" 191 (.builtin "_frozen_importlib.BuiltinImporter.__doc__:str#opaque"), hk P "_ORIGIN" 192 (.str (hs "built-in") 188), hk P "find_spec" 193 (.builtin "_frozen_importlib.BuiltinImporter.find_spec#opaque"), hk P "create_module" 194 (.builtin "_frozen_importlib.BuiltinImporter.create_module#opaque"), hk P "exec_module" 195 (.builtin "_frozen_importlib.BuiltinImporter.exec_module#opaque"), hk P "get_code" 196 (.builtin "_frozen_importlib.BuiltinImporter.get_code#opaque"), hk P "get_source" 197 (.builtin "_frozen_importlib.BuiltinImporter.get_source#opaque"), hk P "is_package" 198 (.builtin "_frozen_importlib.BuiltinImporter.is_package#opaque"), hk P "load_module" 199 (.builtin "_frozen_importlib.BuiltinImporter.load_module#opaque"), hk P "__static_attributes__" 200 (.ref 15), hk P "__dict__" 202 (.ref 16), hk P "__weakref__" 204 (.ref 17)] 14, #[]⟩
noncomputable def ho14 : Obj := ⟨.type "type", none, .cls ⟨hs "BuiltinImporter", [.type "object"], [.ref 14, .type "object"], 13, hs "BuiltinImporter", true, [], [], false, none, false⟩, #[]⟩
noncomputable def ho15 : Obj := tuO #[]
noncomputable def ho16 : Obj := ⟨.type "getset_descriptor", none, .fields #[.str (hs "__dict__") 201, .ref 14, .builtin "function.__dict__", .builtin "function.__dict__#set"], #[]⟩
noncomputable def ho17 : Obj := ⟨.type "getset_descriptor", none, .fields #[.str (hs "__weakref__") 203, .ref 14, .builtin "ExceptionGroup.__weakref__", .none], #[]⟩
noncomputable def ho18 : Obj := ⟨.none, none, .seq #[.int (13) 0, .str ((⟨#[6, 189, 10, 95, 95, 109, 111, 100, 117, 108, 101, 95, 95, 6, 186, 17, 95, 102, 114, 111, 122, 101, 110, 95, 105, 109, 112, 111, 114, 116, 108, 105, 98, 6, 190, 15, 95, 95, 102, 105, 114, 115, 116, 108, 105, 110, 101, 110, 111, 95, 95, 4, 187, 0, 971, 6, 191, 7, 95, 95, 100, 111, 99, 95, 95, 9, 52, 95, 102, 114, 111, 122, 101, 110, 95, 105, 109, 112, 111, 114, 116, 108, 105, 98, 46, 66, 117, 105, 108, 116, 105, 110, 73, 109, 112, 111, 114, 116, 101, 114, 46, 95, 95, 100, 111, 99, 95, 95, 58, 115, 116, 114, 35, 111, 112, 97, 113, 117, 101, 6, 192, 7, 95, 79, 82, 73, 71, 73, 78, 6, 188, 8, 98, 117, 105, 108, 116, 45, 105, 110, 6, 193, 9, 102, 105, 110, 100, 95, 115, 112, 101, 99, 9, 50, 95, 102, 114, 111, 122, 101, 110, 95, 105, 109, 112, 111, 114, 116, 108, 105, 98, 46, 66, 117, 105, 108, 116, 105, 110, 73, 109, 112, 111, 114, 116, 101, 114, 46, 102, 105, 110, 100, 95, 115, 112, 101, 99, 35, 111, 112, 97, 113, 117, 101, 6, 194, 13, 99, 114, 101, 97, 116, 101, 95, 109, 111, 100, 117, 108, 101, 9, 54, 95, 102, 114, 111, 122, 101, 110, 95, 105, 109, 112, 111, 114, 116, 108, 105, 98, 46, 66, 117, 105, 108, 116, 105, 110, 73, 109, 112, 111, 114, 116, 101, 114, 46, 99, 114, 101, 97, 116, 101, 95, 109, 111, 100, 117, 108, 101, 35, 111, 112, 97, 113, 117, 101, 6, 195, 11, 101, 120, 101, 99, 95, 109, 111, 100, 117, 108, 101, 9, 52, 95, 102, 114, 111, 122, 101, 110, 95, 105, 109, 112, 111, 114, 116, 108, 105, 98, 46, 66, 117, 105, 108, 116, 105, 110, 73, 109, 112, 111, 114, 116, 101, 114, 46, 101, 120, 101, 99, 95, 109, 111, 100, 117, 108, 101, 35, 111, 112, 97, 113, 117, 101, 6, 196, 8, 103, 101, 116, 95, 99, 111, 100, 101, 9, 49, 95, 102, 114, 111, 122, 101, 110, 95, 105, 109, 112, 111, 114, 116, 108, 105, 98, 46, 66, 117, 105, 108, 116, 105, 110, 73, 109, 112, 111, 114, 116, 101, 114, 46, 103, 101, 116, 95, 99, 111, 100, 101, 35, 111, 112, 97, 113, 117, 101, 6, 197, 10, 103, 101, 116, 95, 115, 111, 117, 114, 99, 101, 9, 51, 95, 102, 114, 111, 122, 101, 110, 95, 105, 109, 112, 111, 114, 116, 108, 105, 98, 46, 66, 117, 105, 108, 116, 105, 110, 73, 109, 112, 111, 114, 116, 101, 114, 46, 103, 101, 116, 95, 115, 111, 117, 114, 99, 101, 35, 111, 112, 97, 113, 117, 101, 6, 198, 10, 105, 115, 95, 112, 97, 99, 107, 97, 103, 101, 9, 51, 95, 102, 114, 111, 122, 101, 110, 95, 105, 109, 112, 111, 114, 116, 108, 105, 98, 46, 66, 117, 105, 108, 116, 105, 110, 73, 109, 112, 111, 114, 116, 101, 114, 46, 105, 115, 95, 112, 97, 99, 107, 97, 103, 101, 35, 111, 112, 97, 113, 117, 101, 6, 199, 11, 108, 111, 97, 100, 95, 109, 111, 100, 117, 108, 101, 9, 52, 95, 102, 114, 111, 122, 101, 110, 95, 105, 109, 112, 111, 114, 116, 108, 105, 98, 46, 66, 117, 105, 108, 116, 105, 110, 73, 109, 112, 111, 114, 116, 101, 114, 46, 108, 111, 97, 100, 95, 109, 111, 100, 117, 108, 101, 35, 111, 112, 97, 113, 117, 101, 6, 200, 21, 95, 95, 115, 116, 97, 116, 105, 99, 95, 97, 116, 116, 114, 105, 98, 117, 116, 101, 115, 95, 95, 4, 0, 0, 15, 6, 202, 8, 95, 95, 100, 105, 99, 116, 95, 95, 4, 0, 0, 16, 6, 204, 11, 95, 95, 119, 101, 97, 107, 114, 101, 102, 95, 95, 4, 0, 0, 17]⟩ : PySem.Str)) 0, .bool true, .bool true, .str (hs "") 205, .int (21) 0, .str ((⟨#[6, 227, 10, 95, 95, 109, 111, 100, 117, 108, 101, 95, 95, 6, 217, 17, 95, 102, 114, 111, 122, 101, 110, 95, 105, 109, 112, 111, 114, 116, 108, 105, 98, 6, 228, 15, 95, 95, 102, 105, 114, 115, 116, 108, 105, 110, 101, 110, 111, 95, 95, 4, 218, 0, 562, 6, 229, 7, 95, 95, 100, 111, 99, 95, 95, 9, 47, 95, 102, 114, 111, 122, 101, 110, 95, 105, 109, 112, 111, 114, 116, 108, 105, 98, 46, 77, 111, 100, 117, 108, 101, 83, 112, 101, 99, 46, 95, 95, 100, 111, 99, 95, 95, 58, 115, 116, 114, 35, 111, 112, 97, 113, 117, 101, 6, 230, 8, 95, 95, 105, 110, 105, 116, 95, 95, 9, 44, 95, 102, 114, 111, 122, 101, 110, 95, 105, 109, 112, 111, 114, 116, 108, 105, 98, 46, 77, 111, 100, 117, 108, 101, 83, 112, 101, 99, 46, 95, 95, 105, 110, 105, 116, 95, 95, 35, 111, 112, 97, 113, 117, 101, 6, 231, 8, 95, 95, 114, 101, 112, 114, 95, 95, 9, 44, 95, 102, 114, 111, 122, 101, 110, 95, 105, 109, 112, 111, 114, 116, 108, 105, 98, 46, 77, 111, 100, 117, 108, 101, 83, 112, 101, 99, 46, 95, 95, 114, 101, 112, 114, 95, 95, 35, 111, 112, 97, 113, 117, 101, 6, 232, 6, 95, 95, 101, 113, 95, 95, 9, 42, 95, 102, 114, 111, 122, 101, 110, 95, 105, 109, 112, 111, 114, 116, 108, 105, 98, 46, 77, 111, 100, 117, 108, 101, 83, 112, 101, 99, 46, 95, 95, 101, 113, 95, 95, 35, 111, 112, 97, 113, 117, 101, 6, 233, 6, 99, 97, 99, 104, 101, 100, 9, 42, 95, 102, 114, 111, 122, 101, 110, 95, 105, 109, 112, 111, 114, 116, 108, 105, 98, 46, 77, 111, 100, 117, 108, 101, 83, 112, 101, 99, 46, 99, 97, 99, 104, 101, 100, 35, 111, 112, 97, 113, 117, 101, 6, 234, 6, 112, 97, 114, 101, 110, 116, 9, 42, 95, 102, 114, 111, 122, 101, 110, 95, 105, 109, 112, 111, 114, 116, 108, 105, 98, 46, 77, 111, 100, 117, 108, 101, 83, 112, 101, 99, 46, 112, 97, 114, 101, 110, 116, 35, 111, 112, 97, 113, 117, 101, 6, 235, 12, 104, 97, 115, 95, 108, 111, 99, 97, 116, 105, 111, 110, 9, 48, 95, 102, 114, 111, 122, 101, 110, 95, 105, 109, 112, 111, 114, 116, 108, 105, 98, 46, 77, 111, 100, 117, 108, 101, 83, 112, 101, 99, 46, 104, 97, 115, 95, 108, 111, 99, 97, 116, 105, 111, 110, 35, 111, 112, 97, 113, 117, 101, 6, 236, 21, 95, 95, 115, 116, 97, 116, 105, 99, 95, 97, 116, 116, 114, 105, 98, 117, 116, 101, 115, 95, 95, 4, 0, 0, 23, 6, 238, 8, 95, 95, 100, 105, 99, 116, 95, 95, 4, 0, 0, 24, 6, 240, 11, 95, 95, 119, 101, 97, 107, 114, 101, 102, 95, 95, 4, 0, 0, 25, 6, 241, 8, 95, 95, 104, 97, 115, 104, 95, 95, 0]⟩ : PySem.Str)) 0, .bool true, .bool true, .str (hs "") 242] 1, #[]⟩
noncomputable def ho19 : Obj := ⟨.type "list", none, .seq #[] 0, #[]⟩
noncomputable def ho20 : Obj := ⟨.type "dict", none, .dict #[hk P "name" 208 (.str (hs "_sre") 207), hk P "loader" 209 (.ref 14), hk P "origin" 210 (.str (hs "built-in") 184), hk P "loader_state" 211 (.none), hk P "submodule_search_locations" 212 (.none), hk P "_uninitialized_submodules" 213 (.ref 19), hk P "_set_fileattr" 214 (.bool false), hk P "_cached" 215 (.none), hk P "_initializing" 243 (.bool false)] 9, #[]⟩
noncomputable def ho21 : Obj := ⟨.type "dict", none, .dict #[hk P "__module__" 227 (.str (hs "_frozen_importlib") 217), hk P "__firstlineno__" 228 (.int (562) 218), hk P "__doc__" 229 (.builtin "_frozen_importlib.ModuleSpec.__doc__:str#opaque"), hk P "__init__" 230 (.builtin "_frozen_importlib.ModuleSpec.__init__#opaque"), hk P "__repr__" 231 (.builtin "_frozen_importlib.ModuleSpec.__repr__#opaque"), hk P "__eq__" 232 (.builtin "_frozen_importlib.ModuleSpec.__eq__#opaque"), hk P "cached" 233 (.builtin "_frozen_importlib.ModuleSpec.cached#opaque"), hk P "parent" 234 (.builtin "_frozen_importlib.ModuleSpec.parent#opaque"), hk P "has_location" 235 (.builtin "_frozen_importlib.ModuleSpec.has_location#opaque"), hk P "__static_attributes__" 236 (.ref 23), hk P "__dict__" 238 (.ref 24), hk P "__weakref__" 240 (.ref 25), hk P "__hash__" 241 (.none)] 13, #[]⟩
noncomputable def ho22 : Obj := ⟨.type "type", none, .cls ⟨hs "ModuleSpec", [.type "object"], [.ref 22, .type "object"], 21, hs "ModuleSpec", true, [], [], false, none, false⟩, #[]⟩
noncomputable def ho23 : Obj := tuO #[.str (hs "_cached") 219, .str (hs "_set_fileattr") 220, .str (hs "_uninitialized_submodules") 221, .str (hs "loader") 222, .str (hs "loader_state") 223, .str (hs "name") 224, .str (hs "origin") 225, .str (hs "submodule_search_locations") 226]
noncomputable def ho24 : Obj := ⟨.type "getset_descriptor", none, .fields #[.str (hs "__dict__") 237, .ref 22, .builtin "function.__dict__", .builtin "function.__dict__#set"], #[]⟩
noncomputable def ho25 : Obj := ⟨.type "getset_descriptor", none, .fields #[.str (hs "__weakref__") 239, .ref 22, .builtin "ExceptionGroup.__weakref__", .none], #[]⟩
noncomputable def ho26 : Obj := ⟨.ref 22, (some 20), .plain, #[]⟩
noncomputable def ho27 : Obj := ⟨.none, none, .seq #[.int (11) 0, .str ((⟨#[6, 247, 8, 95, 95, 110, 97, 109, 101, 95, 95, 6, 246, 4, 95, 115, 114, 101, 6, 248, 7, 95, 95, 100, 111, 99, 95, 95, 0, 6, 250, 11, 95, 95, 112, 97, 99, 107, 97, 103, 101, 95, 95, 6, 249, 0, 6, 251, 10, 95, 95, 108, 111, 97, 100, 101, 114, 95, 95, 4, 0, 0, 14, 6, 252, 8, 95, 95, 115, 112, 101, 99, 95, 95, 4, 0, 0, 26, 6, 253, 7, 99, 111, 109, 112, 105, 108, 101, 9, 12, 95, 115, 114, 101, 46, 99, 111, 109, 112, 105, 108, 101, 6, 254, 8, 116, 101, 109, 112, 108, 97, 116, 101, 9, 13, 95, 115, 114, 101, 46, 116, 101, 109, 112, 108, 97, 116, 101, 6, 255, 11, 103, 101, 116, 99, 111, 100, 101, 115, 105, 122, 101, 9, 16, 95, 115, 114, 101, 46, 103, 101, 116, 99, 111, 100, 101, 115, 105, 122, 101, 6, 256, 13, 97, 115, 99, 105, 105, 95, 105, 115, 99, 97, 115, 101, 100, 9, 18, 95, 115, 114, 101, 46, 97, 115, 99, 105, 105, 95, 105, 115, 99, 97, 115, 101, 100, 6, 257, 15, 117, 110, 105, 99, 111, 100, 101, 95, 105, 115, 99, 97, 115, 101, 100, 9, 20, 95, 115, 114, 101, 46, 117, 110, 105, 99, 111, 100, 101, 95, 105, 115, 99, 97, 115, 101, 100, 6, 258, 13, 97, 115, 99, 105, 105, 95, 116, 111, 108, 111, 119, 101, 114, 9, 18, 95, 115, 114, 101, 46, 97, 115, 99, 105, 105, 95, 116, 111, 108, 111, 119, 101, 114, 6, 259, 15, 117, 110, 105, 99, 111, 100, 101, 95, 116, 111, 108, 111, 119, 101, 114, 9, 20, 95, 115, 114, 101, 46, 117, 110, 105, 99, 111, 100, 101, 95, 116, 111, 108, 111, 119, 101, 114, 6, 261, 5, 77, 65, 71, 73, 67, 4, 260, 0, 20230612, 6, 263, 8, 67, 79, 68, 69, 83, 73, 90, 69, 4, 262, 0, 4, 6, 265, 9, 77, 65, 88, 82, 69, 80, 69, 65, 84, 4, 264, 0, 4294967295, 6, 267, 9, 77, 65, 88, 71, 82, 79, 85, 80, 83, 4, 266, 0, 1073741823, 6, 269, 9, 99, 111, 112, 121, 114, 105, 103, 104, 116, 6, 268, 53, 32, 83, 82, 69, 32, 50, 46, 50, 46, 50, 32, 67, 111, 112, 121, 114, 105, 103, 104, 116, 32, 40, 99, 41, 32, 49, 57, 57, 55, 45, 50, 48, 48, 50, 32, 98, 121, 32, 83, 101, 99, 114, 101, 116, 32, 76, 97, 98, 115, 32, 65, 66, 32]⟩ : PySem.Str)) 0, .bool true, .bool false, .str (hs "_sre") 271] 0, #[]⟩
noncomputable def hp0 : Heap := ⟨Array.mk [boot_o_0 P, ho1 P, ho2 P, ho3 P, boot_o_4 P, boot_o_5 P, boot_o_6 P, boot_o_7 P, boot_o_8 P, boot_o_9 P, boot_o_10 P, ho11 P, ho12, ho13 P, ho14, ho15, ho16, ho17, ho18, ho19, ho20 P, ho21 P, ho22, ho23, ho24, ho25, ho26, ho27], { }⟩
noncomputable def ho28 : Obj := tuO #[]
noncomputable def ho29 : Obj := ⟨.none, none, .fields #[], #[]⟩
noncomputable def ho30 : Obj := ⟨.type "code", none, .fields #[.str (hs "<module>") 277, .str (hs "<module>") 278, .str (hs "/claim/cut.py") 279, .int (1) 0, .int (0) 0, .int (0) 0, .int (0) 0, .int (0) 0, .ref 28, .bool false, .int (276) 0, .ref 29, .none, .none, .none, .none, .int (280) 0, .int (1) 0, .str (hs "/claim/cut.py") 281], #[]⟩
noncomputable def ho31 : Obj := ⟨.type "frame", none, .plain, #[some (.ref 30), some (.ref 3), some (.ref 3), none, some (.str (hs "__main__") 164), none, some (.ref 0)]⟩
noncomputable def hp_pre : Heap := ⟨Array.mk [boot_o_0 P, ho1 P, ho2 P, ho3 P, boot_o_4 P, boot_o_5 P, boot_o_6 P, boot_o_7 P, boot_o_8 P, boot_o_9 P, boot_o_10 P, ho11 P, ho12, ho13 P, ho14, ho15, ho16, ho17, ho18, ho19, ho20 P, ho21 P, ho22, ho23, ho24, ho25, ho26, ho27, ho28, ho29, ho30, ho31], { }⟩
noncomputable def ho3x : Obj := ⟨.type "dict", none, .dict #[hk P "__name__" 165 (.str (hs "re") 327), hk P "__doc__" 166 (.none), hk P "__package__" 167 (.none), hk P "__loader__" 168 (.builtin "__main__.__loader__#opaque"), hk P "__spec__" 169 (.none), hk P "__annotations__" 170 (.ref 6), hk P "__builtins__" 171 (.ref 4), hk P "__file__" 173 (.str (hs "/claim/cut.py") 172), hk P "__cached__" 174 (.none), hk P "_sre" 275 (.ref 12), hk P "_wall" 288 (.ref 38), hk P "_twin_re_1" 326 (.ref 43)] 12, #[]⟩
noncomputable def ho29x : Obj := ⟨.none, none, .fields #[.int (2) 0, .int (0) 0, .ref 37], #[]⟩
noncomputable def ho32 : Obj := tuO #[]
noncomputable def ho33 : Obj := ⟨.none, none, .fields #[], #[]⟩
noncomputable def ho34 : Obj := tuO #[.str (hs "k") 285]
noncomputable def ho35 : Obj := tuO #[]
noncomputable def ho36 : Obj := ⟨.none, none, .func ⟨hs "_wall", hs "_wall", hPs (hAt hW [1]), .stmts (hBd (hAt hW [1])), hSc (hAt hW [1]), 0, [], .none, .none, .none, .none, none, .none, .none, 0⟩, #[]⟩
noncomputable def ho37 : Obj := ⟨.type "code", none, .fields #[.str (hs "_wall") 282, .str (hs "_wall") 283, .str (hs "/claim/cut.py") 284, .int (2) 0, .int (1) 0, .int (0) 0, .int (0) 0, .int (3) 0, .ref 32, .bool true, .int (276) 0, .ref 33, .none, .ref 34, .ref 35, .ref 36, .int (286) 0, .int (2) 0, .str (hs "/claim/cut.py") 287], #[]⟩
noncomputable def ho38 : Obj := ⟨.type "function", none, .func ⟨hs "_wall", hs "_wall", hPs (hAt hW [1]), .stmts (hBd (hAt hW [1])), hSc (hAt hW [1]), 3, [], .none, .none, .none, .str (hs "__main__") 164, none, .ref 37, .none, 0⟩, #[]⟩
noncomputable def ho39 : Obj := ⟨.type "list", none, .seq #[.int (14) 292, .int (14) 293, .int (4) 294, .int (1) 295, .int (1) 296, .int (9) 297, .int (0) 298, .int (64) 299, .int (0) 300, .int (1342177280) 301, .int (0) 302, .int (0) 303, .int (0) 304, .int (0) 305, .int (0) 306, .int (17) 307, .int (0) 308, .int (13) 309, .int (11) 310, .int (9) 311, .int (0) 312, .int (64) 313, .int (0) 314, .int (1342177280) 315, .int (0) 316, .int (0) 317, .int (0) 318, .int (0) 319, .int (0) 320, .int (17) 321, .int (1) 322, .int (1) 323] 0, #[]⟩
noncomputable def ho40 : Obj := ⟨.type "dict", none, .dict #[] 0, #[]⟩
noncomputable def ho41 : Obj := tuO #[.none, .none]
noncomputable def ho42 : Obj := tuO #[.int (14) 0, .int (14) 0, .int (4) 0, .int (1) 0, .int (1) 0, .int (9) 0, .int (0) 0, .int (64) 0, .int (0) 0, .int (1342177280) 0, .int (0) 0, .int (0) 0, .int (0) 0, .int (0) 0, .int (0) 0, .int (17) 0, .int (0) 0, .int (13) 0, .int (11) 0, .int (9) 0, .int (0) 0, .int (64) 0, .int (0) 0, .int (1342177280) 0, .int (0) 0, .int (0) 0, .int (0) 0, .int (0) 0, .int (0) 0, .int (17) 0, .int (1) 0, .int (1) 0]
noncomputable def ho43 : Obj := ⟨.type "re.Pattern", none, .fields #[.str (hs "([&~|])") 290, .int (32) 325, .int (1) 0, .none, .none, .ref 42, .int (0) 0], #[]⟩
noncomputable def hp3 : Heap := ⟨Array.mk [boot_o_0 P, ho1 P, ho2 P, ho3x P, boot_o_4 P, boot_o_5 P, boot_o_6 P, boot_o_7 P, boot_o_8 P, boot_o_9 P, boot_o_10 P, ho11 P, ho12, ho13 P, ho14, ho15, ho16, ho17, ho18, ho19, ho20 P, ho21 P, ho22, ho23, ho24, ho25, ho26, ho27, ho28, ho29x, ho30, ho31, ho32, ho33, ho34, ho35, ho36, ho37, ho38, ho39, ho40, ho41, ho42, ho43], { }⟩
noncomputable def ho3xx : Obj := ⟨.type "dict", none, .dict #[hk P "__name__" 165 (.str (hs "re") 327), hk P "__doc__" 166 (.none), hk P "__package__" 167 (.none), hk P "__loader__" 168 (.builtin "__main__.__loader__#opaque"), hk P "__spec__" 169 (.none), hk P "__annotations__" 170 (.ref 6), hk P "__builtins__" 171 (.ref 4), hk P "__file__" 173 (.str (hs "/claim/cut.py") 172), hk P "__cached__" 174 (.none), hk P "_sre" 275 (.ref 12), hk P "_wall" 288 (.ref 38), hk P "_twin_re_1" 326 (.ref 43), hk P "_special_chars_map" 474 (.ref 45)] 13, #[]⟩
noncomputable def ho44 : Obj := ⟨.type "bytes_iterator", none, .fields #[.none, .int (24) 0], #[]⟩
noncomputable def ho45 : Obj := ⟨.type "dict", none, .dict #[⟨40, .int (40) 330, .str (hs "\\(") 334⟩, ⟨41, .int (41) 336, .str (hs "\\)") 340⟩, ⟨91, .int (91) 342, .str (hs "\\[") 346⟩, ⟨93, .int (93) 348, .str (hs "\\]") 352⟩, ⟨123, .int (123) 354, .str (hs "\\{") 358⟩, ⟨125, .int (125) 360, .str (hs "\\}") 364⟩, ⟨63, .int (63) 366, .str (hs "\\?") 370⟩, ⟨42, .int (42) 372, .str (hs "\\*") 376⟩, ⟨43, .int (43) 378, .str (hs "\\+") 382⟩, ⟨45, .int (45) 384, .str (hs "\\-") 388⟩, ⟨124, .int (124) 390, .str (hs "\\|") 394⟩, ⟨94, .int (94) 396, .str (hs "\\^") 400⟩, ⟨36, .int (36) 402, .str (hs "\\$") 406⟩, ⟨92, .int (92) 408, .str (hs "\\\\") 412⟩, ⟨46, .int (46) 414, .str (hs "\\.") 418⟩, ⟨38, .int (38) 420, .str (hs "\\&") 424⟩, ⟨126, .int (126) 426, .str (hs "\\~") 430⟩, ⟨35, .int (35) 432, .str (hs "\\#") 436⟩, ⟨32, .int (32) 438, .str (hs "\\ ") 442⟩, ⟨9, .int (9) 444, .str ((⟨#[92, 9]⟩ : PySem.Str)) 448⟩, ⟨10, .int (10) 450, .str ((⟨#[92, 10]⟩ : PySem.Str)) 454⟩, ⟨13, .int (13) 456, .str ((⟨#[92, 13]⟩ : PySem.Str)) 460⟩, ⟨11, .int (11) 462, .str ((⟨#[92, 11]⟩ : PySem.Str)) 466⟩, ⟨12, .int (12) 468, .str ((⟨#[92, 12]⟩ : PySem.Str)) 472⟩] 24, #[]⟩
noncomputable def ho46 : Obj := ⟨.type "dict", none, .dict #[] 2, #[]⟩
noncomputable def ho47 : Obj := tuO #[]
noncomputable def ho48 : Obj := ⟨.type "StopIteration", none, .fields #[.ref 47, .none, .none, .none, .bool false, .none], #[]⟩
noncomputable def hp4 : Heap := ⟨Array.mk [boot_o_0 P, ho1 P, ho2 P, ho3xx P, boot_o_4 P, boot_o_5 P, boot_o_6 P, boot_o_7 P, boot_o_8 P, boot_o_9 P, boot_o_10 P, ho11 P, ho12, ho13 P, ho14, ho15, ho16, ho17, ho18, ho19, ho20 P, ho21 P, ho22, ho23, ho24, ho25, ho26, ho27, ho28, ho29x, ho30, ho31, ho32, ho33, ho34, ho35, ho36, ho37, ho38, ho39, ho40, ho41, ho42, ho43, ho44, ho45, ho46, ho47, ho48], { }⟩
noncomputable def ho3xxx : Obj := ⟨.type "dict", none, .dict #[hk P "__name__" 165 (.str (hs "law_dn0069_02") 646), hk P "__doc__" 166 (.none), hk P "__package__" 167 (.none), hk P "__loader__" 168 (.builtin "__main__.__loader__#opaque"), hk P "__spec__" 169 (.none), hk P "__annotations__" 170 (.ref 6), hk P "__builtins__" 171 (.ref 4), hk P "__file__" 173 (.str (hs "/claim/cut.py") 172), hk P "__cached__" 174 (.none), hk P "_sre" 275 (.ref 12), hk P "_wall" 288 (.ref 38), hk P "_twin_re_1" 326 (.ref 43), hk P "_special_chars_map" 474 (.ref 45), hk P "escape" 481 (.ref 55), hk P "_translate" 502 (.ref 62), hk P "_plain_name" 513 (.ref 69), hk P "ABCMeta" 539 (.ref 86), hk P "_ABCLike" 582 (.ref 119), hk P "_abc_plain_meta" 589 (.ref 128), hk P "fspath" 601 (.ref 135), hk P "_check_arg_types" 614 (.ref 142), hk P "_get_sep" 623 (.ref 149), hk P "join" 634 (.ref 156), hk P "split" 645 (.ref 163), hk P "_law_one" 661 (.ref 170), hk P "_law_takes" 667 (.ref 175), hk P "_law_climb" 677 (.ref 182), hk P "_law_spread" 683 (.ref 187), hk P "_law_by_names" 695 (.ref 194), hk P "law" 701 (.ref 199)] 30, #[]⟩
noncomputable def ho29xx : Obj := ⟨.none, none, .fields #[.int (2) 0, .int (0) 0, .ref 37, .int (8) 0, .int (0) 0, .ref 54, .int (15) 0, .int (0) 0, .ref 61, .int (78) 0, .int (0) 0, .ref 68, .int (84) 0, .int (0) 0, .ref 75, .int (89) 0, .int (0) 0, .ref 94, .int (104) 0, .int (0) 0, .ref 127, .int (108) 0, .int (0) 0, .ref 134, .int (125) 0, .int (0) 0, .ref 141, .int (137) 0, .int (0) 0, .ref 148, .int (142) 0, .int (0) 0, .ref 155, .int (159) 0, .int (0) 0, .ref 162, .int (168) 0, .int (0) 0, .ref 169, .int (192) 0, .int (0) 0, .ref 174, .int (200) 0, .int (0) 0, .ref 181, .int (210) 0, .int (0) 0, .ref 186, .int (222) 0, .int (0) 0, .ref 193, .int (232) 0, .int (0) 0, .ref 198], #[]⟩
noncomputable def ho49 : Obj := tuO #[]
noncomputable def ho50 : Obj := ⟨.none, none, .fields #[], #[]⟩
noncomputable def ho51 : Obj := tuO #[.str (hs "pattern") 478]
noncomputable def ho52 : Obj := tuO #[]
noncomputable def ho53 : Obj := ⟨.none, none, .func ⟨hs "escape", hs "escape", hPs (hAt hW [5]), .stmts (hBd (hAt hW [5])), hSc (hAt hW [5]), 0, [], .none, .none, .none, .none, none, .none, .none, 0⟩, #[]⟩
noncomputable def ho54 : Obj := ⟨.type "code", none, .fields #[.str (hs "escape") 475, .str (hs "escape") 476, .str (hs "/claim/cut.py") 477, .int (8) 0, .int (1) 0, .int (0) 0, .int (0) 0, .int (3) 0, .ref 49, .bool true, .int (276) 0, .ref 50, .none, .ref 51, .ref 52, .ref 53, .int (479) 0, .int (8) 0, .str (hs "/claim/cut.py") 480], #[]⟩
noncomputable def ho55 : Obj := ⟨.type "function", none, .func ⟨hs "escape", hs "escape", hPs (hAt hW [5]), .stmts (hBd (hAt hW [5])), hSc (hAt hW [5]), 3, [], .none, .none, .none, .str (hs "re") 327, none, .ref 54, .none, 0⟩, #[]⟩
noncomputable def ho56 : Obj := tuO #[]
noncomputable def ho57 : Obj := ⟨.none, none, .fields #[], #[]⟩
noncomputable def ho58 : Obj := tuO #[.str (hs "pat") 487, .str (hs "STAR") 488, .str (hs "QUESTION_MARK") 489, .str (hs "res") 490, .str (hs "add") 491, .str (hs "i") 492, .str (hs "n") 493, .str (hs "c") 494, .str (hs "j") 495, .str (hs "stuff") 496, .str (hs "chunks") 497, .str (hs "k") 498, .str (hs "chunk") 499]
noncomputable def ho59 : Obj := tuO #[]
noncomputable def ho60 : Obj := ⟨.none, none, .func ⟨hs "_translate", hs "_translate", hPs (hAt hW [7]), .stmts (hBd (hAt hW [7])), hSc (hAt hW [7]), 0, [], .none, .none, .none, .none, none, .none, .none, 0⟩, #[]⟩
noncomputable def ho61 : Obj := ⟨.type "code", none, .fields #[.str (hs "_translate") 484, .str (hs "_translate") 485, .str (hs "/claim/cut.py") 486, .int (15) 0, .int (3) 0, .int (0) 0, .int (0) 0, .int (3) 0, .ref 56, .bool true, .int (276) 0, .ref 57, .none, .ref 58, .ref 59, .ref 60, .int (500) 0, .int (15) 0, .str (hs "/claim/cut.py") 501], #[]⟩
noncomputable def ho62 : Obj := ⟨.type "function", none, .func ⟨hs "_translate", hs "_translate", hPs (hAt hW [7]), .stmts (hBd (hAt hW [7])), hSc (hAt hW [7]), 3, [], .none, .none, .none, .str (hs "cpy313.fnmatch") 482, none, .ref 61, .none, 0⟩, #[]⟩
noncomputable def ho63 : Obj := tuO #[]
noncomputable def ho64 : Obj := ⟨.none, none, .fields #[], #[]⟩
noncomputable def ho65 : Obj := tuO #[.str (hs "x") 508, .str (hs "what") 509, .str (hs "kind") 510]
noncomputable def ho66 : Obj := tuO #[]
noncomputable def ho67 : Obj := ⟨.none, none, .func ⟨hs "_plain_name", hs "_plain_name", hPs (hAt hW [9]), .stmts (hBd (hAt hW [9])), hSc (hAt hW [9]), 0, [], .none, .none, .none, .none, none, .none, .none, 0⟩, #[]⟩
noncomputable def ho68 : Obj := ⟨.type "code", none, .fields #[.str (hs "_plain_name") 505, .str (hs "_plain_name") 506, .str (hs "/claim/cut.py") 507, .int (78) 0, .int (2) 0, .int (0) 0, .int (0) 0, .int (3) 0, .ref 63, .bool true, .int (276) 0, .ref 64, .none, .ref 65, .ref 66, .ref 67, .int (511) 0, .int (78) 0, .str (hs "/claim/cut.py") 512], #[]⟩
noncomputable def ho69 : Obj := ⟨.type "function", none, .func ⟨hs "_plain_name", hs "_plain_name", hPs (hAt hW [9]), .stmts (hBd (hAt hW [9])), hSc (hAt hW [9]), 3, [], .none, .none, .none, .str (hs "os") 503, none, .ref 68, .none, 0⟩, #[]⟩
noncomputable def ho70 : Obj := tuO #[.type "type"]
noncomputable def ho71 : Obj := ⟨.type "builtin_function_or_method", none, .fields #[.builtin "type.__prepare__", .type "type"], #[]⟩
noncomputable def ho72 : Obj := ⟨.type "dict", none, .dict #[hk P "__module__" 523 (.str (hs "abc") 514), hk P "__qualname__" 525 (.str (hs "ABCMeta") 524), hk P "__firstlineno__" 527 (.int (84) 526), hk P "register" 535 (.ref 83), hk P "__static_attributes__" 536 (.ref 84)] 5, #[]⟩
noncomputable def ho73 : Obj := tuO #[]
noncomputable def ho74 : Obj := ⟨.none, none, .fields #[.int (86) 0, .int (4) 0, .ref 82], #[]⟩
noncomputable def ho75 : Obj := ⟨.type "code", none, .fields #[.str (hs "ABCMeta") 518, .str (hs "ABCMeta") 519, .str (hs "/claim/cut.py") 520, .int (84) 0, .int (0) 0, .int (0) 0, .int (0) 0, .int (0) 0, .ref 73, .bool false, .int (276) 0, .ref 74, .none, .none, .none, .none, .int (521) 0, .int (84) 0, .str (hs "/claim/cut.py") 522], #[]⟩
noncomputable def ho76 : Obj := ⟨.type "frame", none, .plain, #[some (.ref 75), some (.ref 3), some (.ref 72), none, some (.str (hs "abc") 514), none, some (.ref 0)]⟩
noncomputable def ho77 : Obj := tuO #[]
noncomputable def ho78 : Obj := ⟨.none, none, .fields #[], #[]⟩
noncomputable def ho79 : Obj := tuO #[.str (hs "cls") 531, .str (hs "subclass") 532]
noncomputable def ho80 : Obj := tuO #[]
noncomputable def ho81 : Obj := ⟨.none, none, .func ⟨hs "register", hs "ABCMeta.register", hPs (hAt hW [11, 0]), .stmts (hBd (hAt hW [11, 0])), hSc (hAt hW [11, 0]), 0, [], .none, .none, .none, .none, none, .none, .none, 0⟩, #[]⟩
noncomputable def ho82 : Obj := ⟨.type "code", none, .fields #[.str (hs "register") 528, .str (hs "ABCMeta.register") 529, .str (hs "/claim/cut.py") 530, .int (86) 0, .int (2) 0, .int (0) 0, .int (0) 0, .int (3) 0, .ref 77, .bool true, .int (276) 0, .ref 78, .none, .ref 79, .ref 80, .ref 81, .int (533) 0, .int (86) 0, .str (hs "/claim/cut.py") 534], #[]⟩
noncomputable def ho83 : Obj := ⟨.type "function", none, .func ⟨hs "register", hs "ABCMeta.register", hPs (hAt hW [11, 0]), .stmts (hBd (hAt hW [11, 0])), hSc (hAt hW [11, 0]), 3, [], .none, .none, .none, .str (hs "abc") 514, none, .ref 82, .none, 0⟩, #[]⟩
noncomputable def ho84 : Obj := tuO #[]
noncomputable def ho85 : Obj := ⟨.type "dict", none, .dict #[hk P "__module__" 523 (.str (hs "abc") 514), hk P "__firstlineno__" 527 (.int (84) 526), hk P "register" 535 (.ref 83), hk P "__static_attributes__" 536 (.ref 84), hk P "__doc__" 537 (.none)] 2, #[]⟩
noncomputable def ho86 : Obj := ⟨.type "type", none, .cls ⟨hs "ABCMeta", [.type "type"], [.ref 86, .type "type", .type "object"], 85, hs "ABCMeta", true, [], [.ref 119], false, none, false⟩, #[some (.ref 70), none, some (.str (hs "ABCMeta") 516), some (.str (hs "ABCMeta") 524), some (.builtin "type.__new__"), some (.bool true)]⟩
noncomputable def ho87 : Obj := ⟨.type "super", none, .fields #[.ref 86, .ref 86, .ref 86], #[]⟩
noncomputable def ho88 : Obj := ⟨.type "builtin_function_or_method", none, .fields #[.builtin "object.__init_subclass__", .ref 86], #[]⟩
noncomputable def ho89 : Obj := tuO #[.ref 86]
noncomputable def ho90 : Obj := ⟨.type "builtin_function_or_method", none, .fields #[.builtin "type.__prepare__", .type "type"], #[]⟩
noncomputable def ho91 : Obj := ⟨.type "dict", none, .dict #[hk P "__module__" 549 (.str (hs "collections.abc") 540), hk P "__qualname__" 551 (.str (hs "_ABCLike") 550), hk P "__firstlineno__" 553 (.int (89) 552), hk P "__instancecheck__" 562 (.ref 102), hk P "__subclasscheck__" 570 (.ref 109), hk P "register" 578 (.ref 116), hk P "__static_attributes__" 579 (.ref 117)] 7, #[]⟩
noncomputable def ho92 : Obj := tuO #[]
noncomputable def ho93 : Obj := ⟨.none, none, .fields #[.int (91) 0, .int (4) 0, .ref 101, .int (97) 0, .int (4) 0, .ref 108, .int (102) 0, .int (4) 0, .ref 115], #[]⟩
noncomputable def ho94 : Obj := ⟨.type "code", none, .fields #[.str (hs "_ABCLike") 544, .str (hs "_ABCLike") 545, .str (hs "/claim/cut.py") 546, .int (89) 0, .int (0) 0, .int (0) 0, .int (0) 0, .int (0) 0, .ref 92, .bool false, .int (276) 0, .ref 93, .none, .none, .none, .none, .int (547) 0, .int (89) 0, .str (hs "/claim/cut.py") 548], #[]⟩
noncomputable def ho95 : Obj := ⟨.type "frame", none, .plain, #[some (.ref 94), some (.ref 3), some (.ref 91), none, some (.str (hs "collections.abc") 540), none, some (.ref 0)]⟩
noncomputable def ho96 : Obj := tuO #[]
noncomputable def ho97 : Obj := ⟨.none, none, .fields #[], #[]⟩
noncomputable def ho98 : Obj := tuO #[.str (hs "cls") 557, .str (⟨#[105, 110, 115, 116, 97, 110, 99, 101]⟩) 558, .str (hs "C") 559]
noncomputable def ho99 : Obj := tuO #[]
noncomputable def ho100 : Obj := ⟨.none, none, .func ⟨hs "__instancecheck__", hs "_ABCLike.__instancecheck__", hPs (hAt hW [13, 0]), .stmts (hBd (hAt hW [13, 0])), hSc (hAt hW [13, 0]), 0, [], .none, .none, .none, .none, none, .none, .none, 0⟩, #[]⟩
noncomputable def ho101 : Obj := ⟨.type "code", none, .fields #[.str (hs "__instancecheck__") 554, .str (hs "_ABCLike.__instancecheck__") 555, .str (hs "/claim/cut.py") 556, .int (91) 0, .int (2) 0, .int (0) 0, .int (0) 0, .int (3) 0, .ref 96, .bool true, .int (276) 0, .ref 97, .none, .ref 98, .ref 99, .ref 100, .int (560) 0, .int (91) 0, .str (hs "/claim/cut.py") 561], #[]⟩
noncomputable def ho102 : Obj := ⟨.type "function", none, .func ⟨hs "__instancecheck__", hs "_ABCLike.__instancecheck__", hPs (hAt hW [13, 0]), .stmts (hBd (hAt hW [13, 0])), hSc (hAt hW [13, 0]), 3, [], .none, .none, .none, .str (hs "collections.abc") 540, none, .ref 101, .none, 0⟩, #[]⟩
noncomputable def ho103 : Obj := tuO #[]
noncomputable def ho104 : Obj := ⟨.none, none, .fields #[], #[]⟩
noncomputable def ho105 : Obj := tuO #[.str (hs "cls") 566, .str (hs "C") 567]
noncomputable def ho106 : Obj := tuO #[]
noncomputable def ho107 : Obj := ⟨.none, none, .func ⟨hs "__subclasscheck__", hs "_ABCLike.__subclasscheck__", hPs (hAt hW [13, 1]), .stmts (hBd (hAt hW [13, 1])), hSc (hAt hW [13, 1]), 0, [], .none, .none, .none, .none, none, .none, .none, 0⟩, #[]⟩
noncomputable def ho108 : Obj := ⟨.type "code", none, .fields #[.str (hs "__subclasscheck__") 563, .str (hs "_ABCLike.__subclasscheck__") 564, .str (hs "/claim/cut.py") 565, .int (97) 0, .int (2) 0, .int (0) 0, .int (0) 0, .int (3) 0, .ref 103, .bool true, .int (276) 0, .ref 104, .none, .ref 105, .ref 106, .ref 107, .int (568) 0, .int (97) 0, .str (hs "/claim/cut.py") 569], #[]⟩
noncomputable def ho109 : Obj := ⟨.type "function", none, .func ⟨hs "__subclasscheck__", hs "_ABCLike.__subclasscheck__", hPs (hAt hW [13, 1]), .stmts (hBd (hAt hW [13, 1])), hSc (hAt hW [13, 1]), 3, [], .none, .none, .none, .str (hs "collections.abc") 540, none, .ref 108, .none, 0⟩, #[]⟩
noncomputable def ho110 : Obj := tuO #[]
noncomputable def ho111 : Obj := ⟨.none, none, .fields #[], #[]⟩
noncomputable def ho112 : Obj := tuO #[.str (hs "cls") 574, .str (hs "subclass") 575]
noncomputable def ho113 : Obj := tuO #[]
noncomputable def ho114 : Obj := ⟨.none, none, .func ⟨hs "register", hs "_ABCLike.register", hPs (hAt hW [13, 2]), .stmts (hBd (hAt hW [13, 2])), hSc (hAt hW [13, 2]), 0, [], .none, .none, .none, .none, none, .none, .none, 0⟩, #[]⟩
noncomputable def ho115 : Obj := ⟨.type "code", none, .fields #[.str (hs "register") 571, .str (hs "_ABCLike.register") 572, .str (hs "/claim/cut.py") 573, .int (102) 0, .int (2) 0, .int (0) 0, .int (0) 0, .int (3) 0, .ref 110, .bool true, .int (276) 0, .ref 111, .none, .ref 112, .ref 113, .ref 114, .int (576) 0, .int (102) 0, .str (hs "/claim/cut.py") 577], #[]⟩
noncomputable def ho116 : Obj := ⟨.type "function", none, .func ⟨hs "register", hs "_ABCLike.register", hPs (hAt hW [13, 2]), .stmts (hBd (hAt hW [13, 2])), hSc (hAt hW [13, 2]), 3, [], .none, .none, .none, .str (hs "collections.abc") 540, none, .ref 115, .none, 0⟩, #[]⟩
noncomputable def ho117 : Obj := tuO #[]
noncomputable def ho118 : Obj := ⟨.type "dict", none, .dict #[hk P "__module__" 549 (.str (hs "collections.abc") 540), hk P "__firstlineno__" 553 (.int (89) 552), hk P "__instancecheck__" 562 (.ref 102), hk P "__subclasscheck__" 570 (.ref 109), hk P "register" 578 (.ref 116), hk P "__static_attributes__" 579 (.ref 117), hk P "__doc__" 580 (.none)] 2, #[]⟩
noncomputable def ho119 : Obj := ⟨.type "type", none, .cls ⟨hs "_ABCLike", [.ref 86], [.ref 119, .ref 86, .type "type", .type "object"], 118, hs "_ABCLike", true, [], [], false, none, false⟩, #[some (.ref 89), none, some (.str (hs "_ABCLike") 542), some (.str (hs "_ABCLike") 550), some (.builtin "type.__new__"), some (.bool true)]⟩
noncomputable def ho120 : Obj := ⟨.type "super", none, .fields #[.ref 119, .ref 119, .ref 119], #[]⟩
noncomputable def ho121 : Obj := ⟨.type "builtin_function_or_method", none, .fields #[.builtin "object.__init_subclass__", .ref 119], #[]⟩
noncomputable def ho122 : Obj := tuO #[]
noncomputable def ho123 : Obj := ⟨.none, none, .fields #[], #[]⟩
noncomputable def ho124 : Obj := tuO #[.str (hs "C") 586]
noncomputable def ho125 : Obj := tuO #[]
noncomputable def ho126 : Obj := ⟨.none, none, .func ⟨hs "_abc_plain_meta", hs "_abc_plain_meta", hPs (hAt hW [14]), .stmts (hBd (hAt hW [14])), hSc (hAt hW [14]), 0, [], .none, .none, .none, .none, none, .none, .none, 0⟩, #[]⟩
noncomputable def ho127 : Obj := ⟨.type "code", none, .fields #[.str (hs "_abc_plain_meta") 583, .str (hs "_abc_plain_meta") 584, .str (hs "/claim/cut.py") 585, .int (104) 0, .int (1) 0, .int (0) 0, .int (0) 0, .int (3) 0, .ref 122, .bool true, .int (276) 0, .ref 123, .none, .ref 124, .ref 125, .ref 126, .int (587) 0, .int (104) 0, .str (hs "/claim/cut.py") 588], #[]⟩
noncomputable def ho128 : Obj := ⟨.type "function", none, .func ⟨hs "_abc_plain_meta", hs "_abc_plain_meta", hPs (hAt hW [14]), .stmts (hBd (hAt hW [14])), hSc (hAt hW [14]), 3, [], .none, .none, .none, .str (hs "collections.abc") 540, none, .ref 127, .none, 0⟩, #[]⟩
noncomputable def ho129 : Obj := tuO #[]
noncomputable def ho130 : Obj := ⟨.none, none, .fields #[], #[]⟩
noncomputable def ho131 : Obj := tuO #[.str (hs "path") 595, .str (hs "kind") 596, .str (hs "hook") 597, .str (hs "given") 598]
noncomputable def ho132 : Obj := tuO #[]
noncomputable def ho133 : Obj := ⟨.none, none, .func ⟨hs "fspath", hs "fspath", hPs (hAt hW [16]), .stmts (hBd (hAt hW [16])), hSc (hAt hW [16]), 0, [], .none, .none, .none, .none, none, .none, .none, 0⟩, #[]⟩
noncomputable def ho134 : Obj := ⟨.type "code", none, .fields #[.str (hs "fspath") 592, .str (hs "fspath") 593, .str (hs "/claim/cut.py") 594, .int (108) 0, .int (1) 0, .int (0) 0, .int (0) 0, .int (3) 0, .ref 129, .bool true, .int (276) 0, .ref 130, .none, .ref 131, .ref 132, .ref 133, .int (599) 0, .int (108) 0, .str (hs "/claim/cut.py") 600], #[]⟩
noncomputable def ho135 : Obj := ⟨.type "function", none, .func ⟨hs "fspath", hs "fspath", hPs (hAt hW [16]), .stmts (hBd (hAt hW [16])), hSc (hAt hW [16]), 3, [], .none, .none, .none, .str (hs "os") 590, none, .ref 134, .none, 0⟩, #[]⟩
noncomputable def ho136 : Obj := tuO #[]
noncomputable def ho137 : Obj := ⟨.none, none, .fields #[], #[]⟩
noncomputable def ho138 : Obj := tuO #[.str (hs "funcname") 607, .str (hs "args") 608, .str (hs "hasstr") 609, .str (hs "hasbytes") 610, .str (hs "s") 611]
noncomputable def ho139 : Obj := tuO #[]
noncomputable def ho140 : Obj := ⟨.none, none, .func ⟨hs "_check_arg_types", hs "_check_arg_types", hPs (hAt hW [18]), .stmts (hBd (hAt hW [18])), hSc (hAt hW [18]), 0, [], .none, .none, .none, .none, none, .none, .none, 0⟩, #[]⟩
noncomputable def ho141 : Obj := ⟨.type "code", none, .fields #[.str (hs "_check_arg_types") 604, .str (hs "_check_arg_types") 605, .str (hs "/claim/cut.py") 606, .int (125) 0, .int (1) 0, .int (0) 0, .int (0) 0, .int (7) 0, .ref 136, .bool true, .int (276) 0, .ref 137, .none, .ref 138, .ref 139, .ref 140, .int (612) 0, .int (125) 0, .str (hs "/claim/cut.py") 613], #[]⟩
noncomputable def ho142 : Obj := ⟨.type "function", none, .func ⟨hs "_check_arg_types", hs "_check_arg_types", hPs (hAt hW [18]), .stmts (hBd (hAt hW [18])), hSc (hAt hW [18]), 3, [], .none, .none, .none, .str (hs "cpy313.genericpath") 602, none, .ref 141, .none, 0⟩, #[]⟩
noncomputable def ho143 : Obj := tuO #[]
noncomputable def ho144 : Obj := ⟨.none, none, .fields #[], #[]⟩
noncomputable def ho145 : Obj := tuO #[.str (hs "path") 620]
noncomputable def ho146 : Obj := tuO #[]
noncomputable def ho147 : Obj := ⟨.none, none, .func ⟨hs "_get_sep", hs "_get_sep", hPs (hAt hW [20]), .stmts (hBd (hAt hW [20])), hSc (hAt hW [20]), 0, [], .none, .none, .none, .none, none, .none, .none, 0⟩, #[]⟩
noncomputable def ho148 : Obj := ⟨.type "code", none, .fields #[.str (hs "_get_sep") 617, .str (hs "_get_sep") 618, .str (hs "/claim/cut.py") 619, .int (137) 0, .int (1) 0, .int (0) 0, .int (0) 0, .int (3) 0, .ref 143, .bool true, .int (276) 0, .ref 144, .none, .ref 145, .ref 146, .ref 147, .int (621) 0, .int (137) 0, .str (hs "/claim/cut.py") 622], #[]⟩
noncomputable def ho149 : Obj := ⟨.type "function", none, .func ⟨hs "_get_sep", hs "_get_sep", hPs (hAt hW [20]), .stmts (hBd (hAt hW [20])), hSc (hAt hW [20]), 3, [], .none, .none, .none, .str (hs "cpy313.posixpath") 615, none, .ref 148, .none, 0⟩, #[]⟩
noncomputable def ho150 : Obj := tuO #[]
noncomputable def ho151 : Obj := ⟨.none, none, .fields #[], #[]⟩
noncomputable def ho152 : Obj := tuO #[.str (hs "a") 627, .str (hs "p") 628, .str (hs "sep") 629, .str (hs "path") 630, .str (hs "b") 631]
noncomputable def ho153 : Obj := tuO #[]
noncomputable def ho154 : Obj := ⟨.none, none, .func ⟨hs "join", hs "join", hPs (hAt hW [21]), .stmts (hBd (hAt hW [21])), hSc (hAt hW [21]), 0, [], .none, .none, .none, .none, none, .none, .none, 0⟩, #[]⟩
noncomputable def ho155 : Obj := ⟨.type "code", none, .fields #[.str (hs "join") 624, .str (hs "join") 625, .str (hs "/claim/cut.py") 626, .int (142) 0, .int (1) 0, .int (0) 0, .int (0) 0, .int (7) 0, .ref 150, .bool true, .int (276) 0, .ref 151, .none, .ref 152, .ref 153, .ref 154, .int (632) 0, .int (142) 0, .str (hs "/claim/cut.py") 633], #[]⟩
noncomputable def ho156 : Obj := ⟨.type "function", none, .func ⟨hs "join", hs "join", hPs (hAt hW [21]), .stmts (hBd (hAt hW [21])), hSc (hAt hW [21]), 3, [], .none, .none, .none, .str (hs "cpy313.posixpath") 615, none, .ref 155, .none, 0⟩, #[]⟩
noncomputable def ho157 : Obj := tuO #[]
noncomputable def ho158 : Obj := ⟨.none, none, .fields #[], #[]⟩
noncomputable def ho159 : Obj := tuO #[.str (hs "p") 638, .str (hs "sep") 639, .str (hs "i") 640, .str (hs "head") 641, .str (hs "tail") 642]
noncomputable def ho160 : Obj := tuO #[]
noncomputable def ho161 : Obj := ⟨.none, none, .func ⟨hs "split", hs "split", hPs (hAt hW [22]), .stmts (hBd (hAt hW [22])), hSc (hAt hW [22]), 0, [], .none, .none, .none, .none, none, .none, .none, 0⟩, #[]⟩
noncomputable def ho162 : Obj := ⟨.type "code", none, .fields #[.str (hs "split") 635, .str (hs "split") 636, .str (hs "/claim/cut.py") 637, .int (159) 0, .int (1) 0, .int (0) 0, .int (0) 0, .int (3) 0, .ref 157, .bool true, .int (276) 0, .ref 158, .none, .ref 159, .ref 160, .ref 161, .int (643) 0, .int (159) 0, .str (hs "/claim/cut.py") 644], #[]⟩
noncomputable def ho163 : Obj := ⟨.type "function", none, .func ⟨hs "split", hs "split", hPs (hAt hW [22]), .stmts (hBd (hAt hW [22])), hSc (hAt hW [22]), 3, [], .none, .none, .none, .str (hs "cpy313.posixpath") 615, none, .ref 162, .none, 0⟩, #[]⟩
noncomputable def ho164 : Obj := tuO #[]
noncomputable def ho165 : Obj := ⟨.none, none, .fields #[], #[]⟩
noncomputable def ho166 : Obj := tuO #[.str (hs "part") 651, .str (hs "sign") 652, .str (hs "body") 653, .str (hs "barred") 654, .str (hs "k") 655, .str (hs "found") 656, .str (hs "low") 657, .str (hs "high") 658]
noncomputable def ho167 : Obj := tuO #[]
noncomputable def ho168 : Obj := ⟨.none, none, .func ⟨hs "_law_one", hs "_law_one", hPs (hAt hW [24]), .stmts (hBd (hAt hW [24])), hSc (hAt hW [24]), 0, [], .none, .none, .none, .none, none, .none, .none, 0⟩, #[]⟩
noncomputable def ho169 : Obj := ⟨.type "code", none, .fields #[.str (hs "_law_one") 648, .str (hs "_law_one") 649, .str (hs "/claim/cut.py") 650, .int (168) 0, .int (2) 0, .int (0) 0, .int (0) 0, .int (3) 0, .ref 164, .bool true, .int (276) 0, .ref 165, .none, .ref 166, .ref 167, .ref 168, .int (659) 0, .int (168) 0, .str (hs "/claim/cut.py") 660], #[]⟩
noncomputable def ho170 : Obj := ⟨.type "function", none, .func ⟨hs "_law_one", hs "_law_one", hPs (hAt hW [24]), .stmts (hBd (hAt hW [24])), hSc (hAt hW [24]), 3, [], .none, .none, .none, .str (hs "law_dn0069_02") 646, none, .ref 169, .none, 0⟩, #[]⟩
noncomputable def ho171 : Obj := tuO #[]
noncomputable def ho172 : Obj := ⟨.none, none, .fields #[], #[]⟩
noncomputable def ho173 : Obj := ⟨.none, none, .func ⟨hs "_law_takes", hs "_law_takes", hPs (hAt hW [25]), .stmts (hBd (hAt hW [25])), hSc (hAt hW [25]), 0, [], .none, .none, .none, .none, none, .none, .none, 0⟩, #[]⟩
noncomputable def ho174 : Obj := ⟨.type "code", none, .fields #[.str (hs "_law_takes") 662, .str (hs "_law_takes") 663, .str (hs "/claim/cut.py") 664, .int (192) 0, .int (3) 0, .int (0) 0, .int (0) 0, .int (3) 0, .ref 171, .bool true, .int (276) 0, .ref 172, .none, .none, .none, .ref 173, .int (665) 0, .int (192) 0, .str (hs "/claim/cut.py") 666], #[]⟩
noncomputable def ho175 : Obj := ⟨.type "function", none, .func ⟨hs "_law_takes", hs "_law_takes", hPs (hAt hW [25]), .stmts (hBd (hAt hW [25])), hSc (hAt hW [25]), 3, [], .none, .none, .none, .str (hs "law_dn0069_02") 646, none, .ref 174, .none, 0⟩, #[]⟩
noncomputable def ho176 : Obj := tuO #[]
noncomputable def ho177 : Obj := ⟨.none, none, .fields #[], #[]⟩
noncomputable def ho178 : Obj := tuO #[.str (hs "text") 671, .str (hs "out") 672, .str (hs "head") 673, .str (hs "tail") 674]
noncomputable def ho179 : Obj := tuO #[]
noncomputable def ho180 : Obj := ⟨.none, none, .func ⟨hs "_law_climb", hs "_law_climb", hPs (hAt hW [26]), .stmts (hBd (hAt hW [26])), hSc (hAt hW [26]), 0, [], .none, .none, .none, .none, none, .none, .none, 0⟩, #[]⟩
noncomputable def ho181 : Obj := ⟨.type "code", none, .fields #[.str (hs "_law_climb") 668, .str (hs "_law_climb") 669, .str (hs "/claim/cut.py") 670, .int (200) 0, .int (1) 0, .int (0) 0, .int (0) 0, .int (3) 0, .ref 176, .bool true, .int (276) 0, .ref 177, .none, .ref 178, .ref 179, .ref 180, .int (675) 0, .int (200) 0, .str (hs "/claim/cut.py") 676], #[]⟩
noncomputable def ho182 : Obj := ⟨.type "function", none, .func ⟨hs "_law_climb", hs "_law_climb", hPs (hAt hW [26]), .stmts (hBd (hAt hW [26])), hSc (hAt hW [26]), 3, [], .none, .none, .none, .str (hs "law_dn0069_02") 646, none, .ref 181, .none, 0⟩, #[]⟩
noncomputable def ho183 : Obj := tuO #[]
noncomputable def ho184 : Obj := ⟨.none, none, .fields #[], #[]⟩
noncomputable def ho185 : Obj := ⟨.none, none, .func ⟨hs "_law_spread", hs "_law_spread", hPs (hAt hW [27]), .stmts (hBd (hAt hW [27])), hSc (hAt hW [27]), 0, [], .none, .none, .none, .none, none, .none, .none, 0⟩, #[]⟩
noncomputable def ho186 : Obj := ⟨.type "code", none, .fields #[.str (hs "_law_spread") 678, .str (hs "_law_spread") 679, .str (hs "/claim/cut.py") 680, .int (210) 0, .int (2) 0, .int (0) 0, .int (0) 0, .int (3) 0, .ref 183, .bool true, .int (276) 0, .ref 184, .none, .none, .none, .ref 185, .int (681) 0, .int (210) 0, .str (hs "/claim/cut.py") 682], #[]⟩
noncomputable def ho187 : Obj := ⟨.type "function", none, .func ⟨hs "_law_spread", hs "_law_spread", hPs (hAt hW [27]), .stmts (hBd (hAt hW [27])), hSc (hAt hW [27]), 3, [], .none, .none, .none, .str (hs "law_dn0069_02") 646, none, .ref 186, .none, 0⟩, #[]⟩
noncomputable def ho188 : Obj := tuO #[]
noncomputable def ho189 : Obj := ⟨.none, none, .fields #[], #[]⟩
noncomputable def ho190 : Obj := tuO #[.str (hs "text") 687, .str (hs "names") 688, .str (hs "star") 689, .str (hs "lists") 690, .str (hs "tails") 691, .str (hs "k") 692]
noncomputable def ho191 : Obj := tuO #[]
noncomputable def ho192 : Obj := ⟨.none, none, .func ⟨hs "_law_by_names", hs "_law_by_names", hPs (hAt hW [28]), .stmts (hBd (hAt hW [28])), hSc (hAt hW [28]), 0, [], .none, .none, .none, .none, none, .none, .none, 0⟩, #[]⟩
noncomputable def ho193 : Obj := ⟨.type "code", none, .fields #[.str (hs "_law_by_names") 684, .str (hs "_law_by_names") 685, .str (hs "/claim/cut.py") 686, .int (222) 0, .int (4) 0, .int (0) 0, .int (0) 0, .int (3) 0, .ref 188, .bool true, .int (276) 0, .ref 189, .none, .ref 190, .ref 191, .ref 192, .int (693) 0, .int (222) 0, .str (hs "/claim/cut.py") 694], #[]⟩
noncomputable def ho194 : Obj := ⟨.type "function", none, .func ⟨hs "_law_by_names", hs "_law_by_names", hPs (hAt hW [28]), .stmts (hBd (hAt hW [28])), hSc (hAt hW [28]), 3, [], .none, .none, .none, .str (hs "law_dn0069_02") 646, none, .ref 193, .none, 0⟩, #[]⟩
noncomputable def ho195 : Obj := tuO #[]
noncomputable def ho196 : Obj := ⟨.none, none, .fields #[], #[]⟩
noncomputable def ho197 : Obj := ⟨.none, none, .func ⟨hs "law", hs "law", hPs (hAt hW [29]), .stmts (hBd (hAt hW [29])), hSc (hAt hW [29]), 0, [], .none, .none, .none, .none, none, .none, .none, 0⟩, #[]⟩
noncomputable def ho198 : Obj := ⟨.type "code", none, .fields #[.str (hs "law") 696, .str (hs "law") 697, .str (hs "/claim/cut.py") 698, .int (232) 0, .int (1) 0, .int (0) 0, .int (0) 0, .int (3) 0, .ref 195, .bool true, .int (276) 0, .ref 196, .none, .none, .none, .ref 197, .int (699) 0, .int (232) 0, .str (hs "/claim/cut.py") 700], #[]⟩
noncomputable def ho199 : Obj := ⟨.type "function", none, .func ⟨hs "law", hs "law", hPs (hAt hW [29]), .stmts (hBd (hAt hW [29])), hSc (hAt hW [29]), 3, [], .none, .none, .none, .str (hs "law_dn0069_02") 646, none, .ref 198, .none, 0⟩, #[]⟩
noncomputable def hp29 : Heap := ⟨Array.mk [boot_o_0 P, ho1 P, ho2 P, ho3xxx P, boot_o_4 P, boot_o_5 P, boot_o_6 P, boot_o_7 P, boot_o_8 P, boot_o_9 P, boot_o_10 P, ho11 P, ho12, ho13 P, ho14, ho15, ho16, ho17, ho18, ho19, ho20 P, ho21 P, ho22, ho23, ho24, ho25, ho26, ho27, ho28, ho29xx, ho30, ho31, ho32, ho33, ho34, ho35, ho36, ho37, ho38, ho39, ho40, ho41, ho42, ho43, ho44, ho45, ho46, ho47, ho48, ho49, ho50, ho51, ho52, ho53, ho54, ho55, ho56, ho57, ho58, ho59, ho60, ho61, ho62, ho63, ho64, ho65, ho66, ho67, ho68, ho69, ho70, ho71, ho72 P, ho73, ho74, ho75, ho76, ho77, ho78, ho79, ho80, ho81, ho82, ho83, ho84, ho85 P, ho86, ho87, ho88, ho89, ho90, ho91 P, ho92, ho93, ho94, ho95, ho96, ho97, ho98, ho99, ho100, ho101, ho102, ho103, ho104, ho105, ho106, ho107, ho108, ho109, ho110, ho111, ho112, ho113, ho114, ho115, ho116, ho117, ho118 P, ho119, ho120, ho121, ho122, ho123, ho124, ho125, ho126, ho127, ho128, ho129, ho130, ho131, ho132, ho133, ho134, ho135, ho136, ho137, ho138, ho139, ho140, ho141, ho142, ho143, ho144, ho145, ho146, ho147, ho148, ho149, ho150, ho151, ho152, ho153, ho154, ho155, ho156, ho157, ho158, ho159, ho160, ho161, ho162, ho163, ho164, ho165, ho166, ho167, ho168, ho169, ho170, ho171, ho172, ho173, ho174, ho175, ho176, ho177, ho178, ho179, ho180, ho181, ho182, ho183, ho184, ho185, ho186, ho187, ho188, ho189, ho190, ho191, ho192, ho193, ho194, ho195, ho196, ho197, ho198, ho199], { }⟩
noncomputable def zk : Frag := [(2, ho2 P), (3, ho3xxx P), (42, ho42), (43, ho43), (45, ho45), (54, ho54), (55, ho55), (57, ho57), (61, ho61), (62, ho62), (134, ho134), (135, ho135), (148, ho148), (149, ho149), (155, ho155), (156, ho156), (162, ho162), (163, ho163), (169, ho169), (170, ho170), (174, ho174), (175, ho175), (181, ho181), (182, ho182), (186, ho186), (187, ho187), (193, ho193), (194, ho194), (198, ho198), (199, ho199)]
noncomputable abbrev zas : List Addr := [2, 3, 42, 43, 45, 54, 55, 57, 61, 62, 134, 135, 148, 149, 155, 156, 162, 163, 169, 170, 174, 175, 181, 182, 186, 187, 193, 194, 198, 199]
theorem zkeys (P : Params) : zas = (zk P).map (·.1) := rfl
noncomputable abbrev hPr : Program := PySem.Challenge.rw_dn0069_02.row.prog
noncomputable abbrev hB : List Stmt := behindTheImports hPr
noncomputable def hEnv : Env := { scope := hPr.main.scope, locals := mainNs, globals := mainNs, cells := [], code := PySem.Value.ref 30, frame := some 31 }
noncomputable abbrev hC : Code := .body hB hEnv
theorem hpre (w : World) (os : OsState) : topGo treeTable hPr w 28 (some (PySem.Value.ref 6)) 12 (⟨hp0 (w).params, Array.mk [], { }, 276, os⟩ : Shared) (topStub hPr) = some ((⟨hp_pre (w).params, Array.mk [], { }, 282, os⟩ : Shared), ⟨denote treeTable hC, hC, { line := 0, col := 0, endLine := 0, endCol := 0 }, [topFrame ({ line := 0, col := 0, endLine := 0, endCol := 0 } : Pos)]⟩) := by kernel_rfl
theorem hblock (w : World) (os : OsState) : segRun treeTable hPr w 28 (some (PySem.Value.ref 6)) 1 (0 + 1) (⟨hp_pre (w).params, Array.mk [], { }, 282, os⟩ : Shared) (blockOf hB hEnv hC { line := 0, col := 0, endLine := 0, endCol := 0 } [topFrame ({ line := 0, col := 0, endLine := 0, endCol := 0 } : Pos)]) = some (.next, (⟨hp_pre (w).params, Array.mk [], { }, 282, os⟩ : Shared), hC, { line := 0, col := 0, endLine := 0, endCol := 0 }) := by kernel_rfl
theorem hseg3 (w : World) : ∀ os : OsState, segRun treeTable hPr (w) 28 (some (PySem.Value.ref 6)) 1 (119 + 1) (⟨hp_pre (w).params, Array.mk [], { }, 282, os⟩ : Shared) (piecesOf ((hB.drop 0).take 3) hEnv hC { line := 0, col := 0, endLine := 0, endCol := 0 } [topFrame ({ line := 0, col := 0, endLine := 0, endCol := 0 } : Pos)]) = some (.next, (⟨hp3 (w).params, Array.mk [], { }, 329, os⟩ : Shared), hC, { line := 6, col := 0, endLine := 6, endCol := 8 }) := by
  intro os; kernel_rfl
theorem rows2 (r0 r1 : String) {P : World → Prop} (h00 : ∀ w : World, P ((w.withFollow r1 false).withFollow r0 false)) (h01 : ∀ w : World, P ((w.withFollow r1 true).withFollow r0 false)) (h10 : ∀ w : World, P ((w.withFollow r1 false).withFollow r0 true)) (h11 : ∀ w : World, P ((w.withFollow r1 true).withFollow r0 true)) : ∀ w, P w := (fun w => byRow2 r0 (P := fun w => P w) (fun w => byRow2 r1 (P := fun w => P (w.withFollow r0 false)) h00 h01 w) (fun w => byRow2 r1 (P := fun w => P (w.withFollow r0 true)) h10 h11 w) w)
noncomputable abbrev hS4 (w : World) : Prop := ∀ os : OsState, segRun treeTable hPr (w) 28 (some (PySem.Value.ref 6)) 1 (1252 + 1) (⟨hp3 (w).params, Array.mk [], { }, 329, os⟩ : Shared) (piecesOf ((hB.drop 3).take 1) hEnv hC { line := 6, col := 0, endLine := 6, endCol := 8 } [topFrame ({ line := 0, col := 0, endLine := 0, endCol := 0 } : Pos)]) = some (.next, (⟨hp4 (w).params, Array.mk [], { }, 475, os⟩ : Shared), hC, { line := 7, col := 0, endLine := 7, endCol := 18 })
theorem zj7 (w : World) : hS4 (World.withFollow (World.withFollow w "special-get-raises" false) "comprehension-iter-twice" false) := by
  intro os; kernel_rfl
theorem zj6 (w : World) : hS4 (World.withFollow (World.withFollow w "special-get-raises" true) "comprehension-iter-twice" false) := by
  intro os; kernel_rfl
theorem zj5 (w : World) : hS4 (World.withFollow (World.withFollow w "special-get-raises" false) "comprehension-iter-twice" true) := by
  intro os; kernel_rfl
theorem zj4 (w : World) : hS4 (World.withFollow (World.withFollow w "special-get-raises" true) "comprehension-iter-twice" true) := by
  intro os; kernel_rfl
theorem hseg4 (w : World) : ∀ os : OsState, segRun treeTable hPr (w) 28 (some (PySem.Value.ref 6)) 1 (1252 + 1) (⟨hp3 (w).params, Array.mk [], { }, 329, os⟩ : Shared) (piecesOf ((hB.drop 3).take 1) hEnv hC { line := 6, col := 0, endLine := 6, endCol := 8 } [topFrame ({ line := 0, col := 0, endLine := 0, endCol := 0 } : Pos)]) = some (.next, (⟨hp4 (w).params, Array.mk [], { }, 475, os⟩ : Shared), hC, { line := 7, col := 0, endLine := 7, endCol := 18 }) := rows2 "comprehension-iter-twice" "special-get-raises" (P := hS4) zj7 zj6 zj5 zj4 w
theorem hseg29 (w : World) : ∀ os : OsState, segRun treeTable hPr (w) 28 (some (PySem.Value.ref 6)) 1 (1060 + 1) (⟨hp4 (w).params, Array.mk [], { }, 475, os⟩ : Shared) (piecesOf ((hB.drop 4).take 25) hEnv hC { line := 7, col := 0, endLine := 7, endCol := 18 } [topFrame ({ line := 0, col := 0, endLine := 0, endCol := 0 } : Pos)]) = some (.next, (⟨hp29 (w).params, Array.mk [], { }, 702, os⟩ : Shared), hC, { line := 232, col := 0, endLine := 263, endCol := 15 }) := by
  intro os; kernel_rfl
theorem hfin (w : World) (os : OsState) : topRun treeTable hPr w 28 (some (PySem.Value.ref 6)) (1 + 1) (⟨hp29 (w).params, Array.mk [], { }, 702, os⟩ : Shared) (restOf [] hEnv hC { line := 232, col := 0, endLine := 263, endCol := 15 } [topFrame ({ line := 0, col := 0, endLine := 0, endCol := 0 } : Pos)]) = some (⟨hp29 (w).params, Array.mk [], { }, 702, os⟩ : Shared) := by kernel_rfl
theorem hcat : hB = (((hB.drop 0).take 3) ++ (((hB.drop 3).take 1) ++ (((hB.drop 4).take 25) ++ []))) := by kernel_rfl
theorem hrun (w : World) (os : OsState) : topRun treeTable hPr w 28 (some (PySem.Value.ref 6)) (12 + ((0 + 1) + ((119 + 1) + ((1252 + 1) + ((1060 + 1) + (1 + 1)))))) (⟨hp0 (w).params, Array.mk [], { }, 276, os⟩ : Shared) (topStub hPr) = some (⟨hp29 (w).params, Array.mk [], { }, 702, os⟩ : Shared) := by
  have k := (piece_app (hseg3 w os) (piece_app (hseg4 w os) (piece_app (hseg29 w os) (hfin w os))))
  rw [← hcat] at k
  exact go_top (hpre w os) (piece_block (hblock w os) k)
theorem hsize (w : World) : ((hp0 w.params).isNs mainGlobals && (Array.mk [] : Array GenState).size == 0, (hp0 w.params).objs.size, (hp0 w.params).nsMap mainGlobals "__annotations__") = (true, 28, (some (PySem.Value.ref 6) : Option PySem.Value)) := by kernel_rfl
theorem hlooks (w : World) : (fun os => ((staticsOk (importedModules hPr.main.body) (hp0 w.params) (hp29 w.params) && namesBound hPr (hp29 w.params) && gensDone (⟨hp29 (w).params, Array.mk [], { }, 702, os⟩ : Shared) && laidKept (hp0 w.params) (hp29 w.params)), openSeen view02 [PySem.Str.ofString "_twin_re_1", PySem.Str.ofString "_special_chars_map"] (importedModules hPr.main.body) (fun s => xlAt view02 [] s && recOk (RowW.records PySem.Challenge.rw_dn0069_02.row.toRowW) s) true (⟨hp29 (w).params, Array.mk [], { }, 702, os⟩ : Shared), obsZ zas (⟨hp29 (w).params, Array.mk [], { }, 702, os⟩ : Shared))) = fun _ => (true, openGood view02 [PySem.Str.ofString "_twin_re_1", PySem.Str.ofString "_special_chars_map"], valZ zk 200 702 w) := by kernel_rfl
theorem hopen (w : World) : (fencedOpening treeTable hPr w 4988).map (fun s => (s.heap, s.gens, s.drawn, s.toks)) = some (hp0 w.params, Array.mk [], { }, 276) := by kernel_rfl
theorem said02 : PySem.Challenge.rw_dn0069_02.wellSaid = true := by
  kernel_rfl
theorem hleft : LeftO hPr view02 [PySem.Str.ofString "_twin_re_1", PySem.Str.ofString "_special_chars_map"] (fun s => xlAt view02 [] s && recOk (RowW.records PySem.Challenge.rw_dn0069_02.row.toRowW) s) (obsZ zas) (valZ zk 200 702) 4988 := LeftO.of_pieces (H₀ := hp0) (H₁ := hp29) (gs₀ := Array.mk []) (gs₁ := Array.mk []) (d₀ := { }) (d₁ := { }) (k₀ := 276) (k₁ := 702) (m₀ := 28) (ann := some (PySem.Value.ref 6)) (M := (12 + ((0 + 1) + ((119 + 1) + ((1252 + 1) + ((1060 + 1) + (1 + 1))))))) hopen hsize hrun (by kernel_rfl) hlooks
end Mine
end H02x
section
open PySem
namespace Mine
noncomputable abbrev lobj (vs : Array Value) (n : Nat) : Obj := { cls := .type "list", data := .seq vs n }
noncomputable abbrev tobj (vs : Array Value) (n : Nat) : Obj := { cls := .type "tuple", data := .seq vs n }
noncomputable abbrev appObj (a : Addr) : Obj := { cls := .type "builtin_function_or_method", data := .fields #[.builtin "list.append", .ref a] }
theorem zde : builtinKind "issubclass.nested" = none := by decide +kernel
theorem zcX : plainId "issubclass.nested" = true := by decide +kernel
theorem zcS (a b c : Value) : argsOk "issubclass.nested" ⟨[a, b, c], []⟩ := by unfold argsOk; kernel_rfl
theorem zfs : isSubtype (.type "str") (.type "str") = pure true := by rw [isSubtype_type]; kernel_rfl
section
variable {prog : Program} {w : World} {A : Around} {E : VP}
theorem zdz (dep : Int) (tk : Tok) : Meets (Builtin.«issubclass.nested» ⟨[.type "str", .type "str", .int dep tk], []⟩) (fun _ R s => R (.ok (.ret (.bool true))) s) :=
  .of_wp fun prog w A R s h => by
    obtain ⟨hh, g, d, t, os⟩ := s
    have f1 := zfs
    have f2 : typeOf (.type "str") = pure (.type "type") := rfl
    repeat (any_goals (first | assumption | (rw [f1]) | wp_step))
    all_goals exact ⟨_, rfl, h⟩
theorem zc2 {tp : Addr} {c2 : Value} {n : Nat} {tk : Tok} {s : Shared} {Q : Fin → Shared → Prop} (htp : s.heap.get? tp = some { cls := .type "tuple", data := .seq [Value.type "str", c2].toArray n })
    (hq : ∀ tk', Q (.done (.ret (.bool true))) { s with toks := tk' }) : wpAny (model prog w) A (Builtin.«issubclass.nested» ⟨[.type "str", .ref tp, .int 0 tk], []⟩) Q E s := by
  obtain ⟨h, g, d, t, os⟩ := s
  have hT2 : (⟨h, g, d, t, os⟩ : Shared).TypeIs (.ref tp) "tuple" := ⟨_, htp, rfl⟩
  have f1 := F.isi_sub_tuple
  repeat (any_goals (first | assumption | ((with_reducible show wpAny _ _ (call (Value.builtin "issubclass.nested") _ _) _ _ _); refine call_function_meets zde zcX F.entry_issubclass_nested (zcS _ _ _) (zdz _ _) ?_) | wp_step))
  exact hq _
theorem zdA {tp : Addr} {c2 : Value} {n : Nat} {s : Shared} {Q : VP} (htp : s.heap.get? tp = some { cls := .type "tuple", data := .seq [Value.type "str", c2].toArray n })
    (hq : ∀ tk', Q (.bool true) { s with toks := tk' }) : wpAny (model prog w) A (call (.builtin "issubclass") [.type "str", .ref tp]) Q E s := by
  have g : Meets (Builtin.«issubclass» ⟨[.type "str", .ref tp], []⟩) (fun _ R s => s.heap.get? tp = some { cls := .type "tuple", data := .seq [Value.type "str", c2].toArray n } ∧ ∀ tk', R (.ok (.ret (.bool true))) { s with toks := tk' }) :=
    fun _ _ _ _ _ hs => PyProof.Rows.issubclass_outer (zc2 hs.1 fun tk' => hs.2 tk')
  exact PyProof.Rows.call_issubclass g ⟨htp, fun tk' => hq tk'⟩
end
theorem zft : isSubtype (.type "str") (.type "list") = pure false := by rw [isSubtype_type]; kernel_rfl
theorem zeJ : isSubtype (.type "str") (.type "tuple") = pure false := by rw [isSubtype_type]; kernel_rfl
theorem zec : isSubtype (.type "list") (.type "list") = pure true := by rw [isSubtype_type]; kernel_rfl
section
variable {prog : Program} {w : World} {A : Around} {E : VP}
theorem zc3 {x : Str} {u : Tok} {T : String} (hne : (Value.type "str" == Value.type T) = false) (hty : typeOf (.type T) = pure (.type "type")) (hsub : isSubtype (.type "str") (.type T) = pure false) (dep : Int) (tk : Tok) :
    Meets (Builtin.«isinstance.nested» ⟨[.str x u, .type T, .int dep tk], []⟩) (fun _ R s => ∀ tk', R (.ok (.ret (.bool false))) { s with toks := tk' }) :=
  .of_wp fun prog w A R s h => by
    obtain ⟨hh, g, d, t, os⟩ := s
    exact isinstance_nested_false_str hne hty hsub ⟨_, rfl, h _⟩
theorem ze4 {a : Addr} {vs : Array Value} {n : Nat} (dep : Int) (tk : Tok) :
    Meets (Builtin.«isinstance.nested» ⟨[.ref a, .type "list", .int dep tk], []⟩) (fun _ R s => s.heap.get? a = some (lobj vs n) ∧ ∀ tk', R (.ok (.ret (.bool true))) { s with toks := tk' }) :=
  .of_wp fun prog w A R s h => by
    obtain ⟨hh, g, d, t, os⟩ := s
    obtain ⟨hl, h⟩ := h
    have hT : (⟨hh, g, d, t, os⟩ : Shared).TypeIs (.ref a) "list" := ⟨_, hl, rfl⟩
    refine isinstance_nested_true rfl hT rfl zec ⟨_, rfl, h _⟩
set_option maxHeartbeats 4000000 in
theorem ze3 {x : Str} {u : Tok} {tp : Addr} {n : Nat} {tk : Tok} {s : Shared} {Q : Fin → Shared → Prop} (htp : s.heap.get? tp = some { cls := .type "tuple", data := .seq [Value.type "list", Value.type "tuple"].toArray n })
    (hq : ∀ tk', Q (.done (.ret (.bool false))) { s with toks := tk' }) : wpAny (model prog w) A (Builtin.«isinstance.nested» ⟨[.str x u, .ref tp, .int 0 tk], []⟩) Q E s := by
  obtain ⟨h, g, d, t, os⟩ := s
  have hT2 : (⟨h, g, d, t, os⟩ : Shared).TypeIs (.ref tp) "tuple" := ⟨_, htp, rfl⟩
  have hx : ∀ t', (⟨h, g, d, t', os⟩ : Shared).TypeIs (.str x u) "str" := fun _ => rfl
  have f1 := F.isi_sub_tuple
  have k1 := fun tk => zc3 (x := x) (u := u) (T := "list") (by decide) rfl zft 1 tk
  have k2 := fun tk => zc3 (x := x) (u := u) (T := "tuple") (by decide) rfl zeJ 1 tk
  repeat (any_goals (first | assumption | exact hx _ | ((with_reducible show wpAny _ _ (call (Value.builtin "isinstance.nested") _ _) _ _ _); refine call_function_meets F.kind_isinstance_nested F.plain_isinstance_nested F.entry_isinstance_nested (F.args_isinstance_nested_3 _ _ _) (by first | exact k1 _ | exact k2 _) (fun tk' => ?_)) | wp_step))
  all_goals exact hq _
theorem zeh {a : Addr} {vs : Array Value} {k : Nat} {tp : Addr} {n : Nat} {c2 : Value} {tk : Tok} {s : Shared} {Q : Fin → Shared → Prop} (hl : s.heap.get? a = some (lobj vs k)) (htp : s.heap.get? tp = some { cls := .type "tuple", data := .seq [Value.type "list", c2].toArray n })
    (hq : ∀ tk', Q (.done (.ret (.bool true))) { s with toks := tk' }) : wpAny (model prog w) A (Builtin.«isinstance.nested» ⟨[.ref a, .ref tp, .int 0 tk], []⟩) Q E s := by
  obtain ⟨h, g, d, t, os⟩ := s
  have hT2 : (⟨h, g, d, t, os⟩ : Shared).TypeIs (.ref tp) "tuple" := ⟨_, htp, rfl⟩
  have hx : ∀ t', (⟨h, g, d, t', os⟩ : Shared).TypeIs (.ref a) "list" := fun _ => ⟨_, hl, rfl⟩
  have f1 := F.isi_sub_tuple
  have k1 := fun tk => ze4 (a := a) (vs := vs) (n := k) 1 tk
  repeat (any_goals (first | assumption | exact hx _ | ((with_reducible show wpAny _ _ (call (Value.builtin "isinstance.nested") _ _) _ _ _); refine call_function_meets F.kind_isinstance_nested F.plain_isinstance_nested F.entry_isinstance_nested (F.args_isinstance_nested_3 _ _ _) (k1 _) ⟨hl, fun tk' => ?_⟩) | wp_step))
  all_goals exact hq _
theorem zfX {x : Str} {u : Tok} {tp : Addr} {n : Nat} {s : Shared} {Q : VP} (htp : s.heap.get? tp = some { cls := .type "tuple", data := .seq [Value.type "list", Value.type "tuple"].toArray n })
    (hq : ∀ tk', Q (.bool false) { s with toks := tk' }) : wpAny (model prog w) A (call (.builtin "isinstance") [.str x u, .ref tp]) Q E s := by
  have g : Meets (Builtin.«isinstance» ⟨[.str x u, .ref tp], []⟩) (fun _ R s => s.heap.get? tp = some { cls := .type "tuple", data := .seq [Value.type "list", Value.type "tuple"].toArray n } ∧ ∀ tk', R (.ok (.ret (.bool false))) { s with toks := tk' }) :=
    fun _ _ _ _ s hs => isinstance_outer (ze3 hs.1 fun tk' => hs.2 tk') (Shared.TypeIs.not_mainsLoader (T := "str") (s := s) rfl)
  exact call_isinstance g ⟨htp, fun tk' => hq tk'⟩
theorem zfd {a : Addr} {vs : Array Value} {k : Nat} {tp : Addr} {n : Nat} {c2 : Value} {s : Shared} {Q : VP} (hl : s.heap.get? a = some (lobj vs k)) (htp : s.heap.get? tp = some { cls := .type "tuple", data := .seq [Value.type "list", c2].toArray n })
    (hq : ∀ tk', Q (.bool true) { s with toks := tk' }) : wpAny (model prog w) A (call (.builtin "isinstance") [.ref a, .ref tp]) Q E s := by
  have g : Meets (Builtin.«isinstance» ⟨[.ref a, .ref tp], []⟩) (fun _ R s => s.heap.get? a = some (lobj vs k) ∧ s.heap.get? tp = some { cls := .type "tuple", data := .seq [Value.type "list", c2].toArray n } ∧ ∀ tk', R (.ok (.ret (.bool true))) { s with toks := tk' }) :=
    fun _ _ _ _ s hs => isinstance_outer (zeh hs.1 hs.2.1 fun tk' => hs.2.2 tk') (Shared.TypeIs.not_mainsLoader (T := "list") (s := s) ⟨_, hs.1, rfl⟩)
  exact call_isinstance g ⟨hl, htp, fun tk' => hq tk'⟩
end
section
variable {prog : Program} {w : World} {A : Around} {E : VP} {s : Shared}
end
theorem slot_md_get : PySem.Slot "method_descriptor" "__get__" "method_descriptor.__get__" :=
  PySem.Slot.of (owner := "method_descriptor") (n := "__get__") (by rw [typeLookup_type, builtinLookup_eq_fast]; kernel_rfl) (by decide +kernel) (by decide +kernel) (by decide +kernel)
    (by first | exact .inl (by decide +kernel) | exact .inr (by decide +kernel)) (by rw [isSubtype_type]; kernel_rfl)
theorem zfU : entryFor table "method_descriptor.__get__" = some Builtin.«method_descriptor.__get__» := entryFor_of_tree (by kernel_rfl)
theorem zfg (a b c : Value) : argsOk "method_descriptor.__get__" ⟨[a, b, c], []⟩ := by unfold argsOk; kernel_rfl
theorem ziD : typeLookup (.type "method_descriptor") "__set__" = pure none := by rw [typeLookup_type, builtinLookup_eq_fast]; kernel_rfl
theorem zfH : typeLookup (.type "method_descriptor") "__delete__" = pure none := by rw [typeLookup_type, builtinLookup_eq_fast]; kernel_rfl
theorem zgq : builtinKind "list.append" = some .method := by decide +kernel
theorem zdY : isSubtype (.type "list") (.type "module") = pure false := by rw [isSubtype_type]; kernel_rfl
section
variable {prog : Program} {w : World} {A : Around} {E : VP} {s : Shared}
theorem zgx {l : Addr} {items : Array Value} {n : Nat} {x : Value} {Q : Unit → Shared → Prop} (hl : s.heap.get? l = some (lobj items n)) (h : Q () s) : wpAny (model prog w) A (checkBoundCall "list.append" ⟨[.ref l, x], []⟩) Q E s := by
  obtain ⟨hp, g, d, tk, os⟩ := s
  have hT : (⟨hp, g, d, tk, os⟩ : Shared).TypeIs (.ref l) "list" := ⟨_, hl, rfl⟩
  have f1 := zdY
  have f2 := zgq
  unfold checkBoundCall
  repeat (any_goals (first | assumption | wp_step))
theorem zhU {b l : Addr} {items : Array Value} {n : Nat} {x : Value} {R : Result → Shared → Prop} (hb : s.heap.get? b = some (appObj l)) (hl : s.heap.get? l = some (lobj items n))
    (h : codeAny (model prog w) A (.builtin "list.append" ⟨[.ref l, x], []⟩) R s) : codeAny (model prog w) A (.call (.ref b) ⟨[x], []⟩) R s := by
  refine codeAny_of_tree ?_
  show wpAny _ _ (callAny (.ref b) _) _ _ _
  unfold callAny
  refine wb (wpAny_load hb ?_)
  refine wb (zgx hl ?_)
  exact wpAny_pure ⟨Code.quiet_builtin _ (by decide +kernel), h⟩
theorem zgA {l : Addr} {items : Array Value} {n : Nat} {x : Value} {R : Result → Shared → Prop} (hl : s.heap.get? l = some (lobj items n)) (hsz : items.size ≤ sizeLine)
    (h : R (.ok (.ret .none)) { s with heap := s.heap.update l (Obj.mapSeq fun y => y.push x) }) : codeAny (model prog w) A (.builtin "list.append" ⟨[.ref l, x], []⟩) R s := by
  refine codeAny_builtin F.entry_list_append ?_
  exact list_append l items n x hsz prog w _ _ s ⟨hl, h⟩
theorem zfJ {b l : Addr} {Q : Keeper → Shared → Prop} (hb : s.heap.get? b = some (appObj l)) (h : Q .machine s) : wpAny (model prog w) A (keeperOf (.ref b)) Q E s := by
  unfold keeperOf
  exact wb (wpAny_load hb (wpAny_pure h))
theorem zel {b l : Addr} {pos : Pos} {args : List (Bool × Sem Value)} {Q : VP} (hplain : args.any (·.1) = false)
    (h : wpAny (model prog w) A (evalArgs (.ref b) true args []) (fun a s₁ => s₁.heap.get? b = some (appObj l) ∧ wpAny (model prog w) A (call (.ref b) a.pos a.kw) Q E s₁) E s) :
    wpAny (model prog w) A (callWith pos (.ref b) [] args []) Q E s := by
  unfold callWith
  refine wb (wpAny_holding (wpAny_mono h (fun a s₁ h₁ => wb (wpAny_standAt ?_)) fun _ _ x => x))
  simp only [hplain, List.any_nil, Bool.or_false]
  refine wb (zfJ h₁.1 ?_)
  exact wb (wpAny_mono h₁.2 (fun r s₂ hr => wb (wpAny_holding (wpAny_point (wpAny_pure hr)))) fun _ _ x => x)
theorem zeK : isSubtype (.type "list") (.type "list") = pure true := by rw [isSubtype_type]; kernel_rfl
theorem zfG (l : Addr) (items : Array Value) (n : Nat) :
    Meets (Builtin.«method_descriptor.__get__» ⟨[.builtin "list.append", .ref l, .type "list"], []⟩) (fun A R s => s.heap.get? l = some (lobj items n) ∧ R (.ok (.ret (.ref s.heap.objs.size))) { s with heap := s.heap.push (appObj l) }) :=
  Meets.of_wp fun prog w A R s hs => by
    obtain ⟨hp, g, d, tk, os⟩ := s
    obtain ⟨hl, h⟩ := hs
    have hT : (⟨hp, g, d, tk, os⟩ : Shared).TypeIs (.ref l) "list" := ⟨_, hl, rfl⟩
    have f1 := zeK
    have f2 : (Manifest.toldItsClass.contains "list.append") = false := by decide +kernel
    unfold Builtin.«method_descriptor.__get__»
    simp only [f2]
    repeat (any_goals (first | assumption | wp_step))
    rw [show (".".intercalate ("list.append".cutAt '.').dropLast) = "list" by decide +kernel]
    rw [f1]
    refine wpAny_pure ?_
    rw [if_neg (by decide)]
    refine wpAny_pure ?_
    show wpAny _ _ (newFields "builtin_function_or_method" [.builtin "list.append", .ref l] >>= fun v => ret v) _ _ _
    exact wb (wpAny_newObj_type (wpAny_pure ⟨_, rfl, h⟩))
theorem zgz : (["__module__", "__name__", "__qualname__", "__doc__", "__annotations__"] : List Str).contains "append" = false := by decide +kernel
theorem zb7 (l : Addr) (items : Array Value) (n : Nat) (u : Tok) :
    Meets (Builtin.«object.__getattribute__» ⟨[.ref l, .str "append" u], []⟩) (fun A R s => s.heap.get? l = some (lobj items n) ∧ R (.ok (.ret (.ref s.heap.objs.size))) { s with heap := s.heap.push (appObj l) }) :=
  Meets.of_wp fun prog w A R s hs => by
    obtain ⟨hp, g, d, tk, os⟩ := s
    obtain ⟨hl, h⟩ := hs
    have hT : (⟨hp, g, d, tk, os⟩ : Shared).TypeIs (.ref l) "list" := ⟨_, hl, rfl⟩
    have hM : (⟨hp, g, d, tk, os⟩ : Shared).TypeIs (.builtin "list.append") "method_descriptor" := F.type_list_append
    have f1 := F.slot_list_append.lookup
    have f2 := slot_md_get.lookup
    have f3 := ziD
    have f4 := zfH
    have f5 := zgz
    unfold Builtin.«object.__getattribute__»
    repeat (any_goals (first | assumption | ((with_reducible show wpAny _ _ (call (Value.builtin "method_descriptor.__get__") _ _) _ _ _); refine call_meets slot_md_get hM zfU (zfg _ _ _) (zfG l items n) ⟨hl, ?_⟩) | wp_step))
    exact wpAny_pure ⟨_, rfl, h⟩
theorem zei {l : Addr} {items : Array Value} {n : Nat} {Q : VP} (hl : s.heap.get? l = some (lobj items n)) (h : Q (.ref s.heap.objs.size) { s with heap := s.heap.push (appObj l), toks := s.toks + 1 }) :
    wpAny (model prog w) A (getAttr (.ref l) "append" true) Q E s := by
  obtain ⟨hp, g, d, tk, os⟩ := s
  have hT : ∀ tk', (⟨hp, g, d, tk', os⟩ : Shared).TypeIs (.ref l) "list" := fun _ => ⟨_, hl, rfl⟩
  have f3 := F.slot_list_getattribute.lookup
  have f4 := F.slot_list_getattribute.bind (.ref l)
  have f5 := am_list_getattr_none
  unfold getAttr getAttrBy
  repeat (any_goals (first | assumption | exact hT _ | ((with_reducible show wpAny _ _ (call (Value.builtin "list.__getattribute__") _ _) _ _ _); refine call_meets F.slot_list_getattribute (hT _) am_entry_list_getattribute (F.args_list_getattribute_2 _ _) (zb7 l items n _) ⟨hl, ?_⟩) | wp_step))
  show wpAny _ _ (handedOut (.ref _)) _ _ _
  exact wpAny_pure h
end
theorem zed : isSubtype (.type "KeyError") (.type "LookupError") = pure true := by rw [isSubtype_type]; kernel_rfl
section
variable {prog : Program} {w : World} {A : Around} {E : VP} {s : Shared}
theorem zh2 {d : Addr} {f : Int → Option Value} {c : Nat} {t : PySem.Str} {u : Tok} {Q : Builtin.Str.Mapped → Shared → Prop} (hm : s.heap.MapOf (intKind prog w) d f) (hv : f (c : Int) = some (.str t u)) (h : ∀ k, Q (.text t) { s with toks := k }) :
    wpAny (model prog w) A (Builtin.Str.tableLookup (.ref d) c) Q E s := by
  unfold Builtin.Str.tableLookup
  refine wb (wpAny_attempt (wb (wpAny_mkInt (wpAny_getItem_of (knd := intKind prog w) (k := (c : Int)) (v := .str t u) (by simp [intKind, Value.isInt]) hm hv ?_))))
  obtain ⟨hh, g, dd, tk, os⟩ := s
  repeat (any_goals (first | assumption | wp_step))
  exact h _
theorem zhj {d : Addr} {f : Int → Option Value} {c : Nat} {Q : Builtin.Str.Mapped → Shared → Prop} (hh : A.handled = none) (hm : s.heap.MapOf (intKind prog w) d f) (hd : (d == sysModules) = false) (hv : f (c : Int) = none)
    (h : ∀ h' k, (∀ b o, s.heap.get? b = some o → h'.get? b = some o) → Q .keep { s with heap := h', toks := k }) :
    wpAny (model prog w) A (Builtin.Str.tableLookup (.ref d) c) Q E s := by
  unfold Builtin.Str.tableLookup
  refine wb (wpAny_attempt (wb (wpAny_mkInt (wpAny_getItem_missing_of (knd := intKind prog w) (k := (c : Int)) (by simp [intKind, Value.isInt]) hd hh hm hv fun h' e ne => ?_))))
  obtain ⟨ob, t, g1, g2, g3⟩ := ne.there
  show wpAny _ _ (do if ← isInstance (.ref e) (.type "LookupError") then rule "str.translate.not-in-table"; pure Builtin.Str.Mapped.keep else throw (.ref e)) _ _ _
  refine wb (wpAny_isInstance (T := "KeyError") (b := true) ⟨ob, g1, g2⟩ zed ?_)
  rw [if_pos rfl]
  exact wb (wpAny_rule (wpAny_pure (h _ _ ne.keeps)))
set_option maxHeartbeats 2000000 in
theorem zeI {d : Addr} {f : Int → Option Value} {c x : Nat} {t u : Tok} (hc : c < 128) :
    MeetsIn prog w (Builtin.«str.translate» ⟨[.str ⟨#[c]⟩ t, .ref d], []⟩) (fun A R s => (s.heap.MapOf (intKind prog w) d f ∧ f (c : Int) = some (.str ⟨#[92, x]⟩ u)) ∧ ∀ k k', R (.ok (.ret (.str ⟨#[92, x]⟩ k))) { s with toks := k' }) :=
  .of_wp fun A R s hs => by
    obtain ⟨hh, g, dd, tk, os⟩ := s
    obtain ⟨⟨hm, hv⟩, h⟩ := hs
    have hc' : decide (c < 128) = true := by simpa using hc
    repeat (any_goals (first | assumption | ((with_reducible show wpAny _ _ (Builtin.Str.tableLookup _ _) _ _ _); refine zh2 hm hv fun k => ?_) | wp_step))
    exact ⟨_, rfl, h _ _⟩
set_option maxHeartbeats 2000000 in
theorem zeb {d : Addr} {f : Int → Option Value} {c : Nat} {t : Tok} (hc : c < 128) (hd : (d == sysModules) = false) :
    MeetsIn prog w (Builtin.«str.translate» ⟨[.str ⟨#[c]⟩ t, .ref d], []⟩) (fun A R s => (s.heap.MapOf (intKind prog w) d f ∧ f (c : Int) = none ∧ A.handled = none) ∧ ∀ h' k k', (∀ b o, s.heap.get? b = some o → h'.get? b = some o) → R (.ok (.ret (.str ⟨#[c]⟩ k))) { s with heap := h', toks := k' }) :=
  .of_wp fun A R s hs => by
    obtain ⟨hh, g, dd, tk, os⟩ := s
    obtain ⟨⟨hm, hv, hA⟩, h⟩ := hs
    have hc' : decide (c < 128) = true := by simpa using hc
    repeat (any_goals (first | assumption | ((with_reducible show wpAny _ _ (Builtin.Str.tableLookup _ _) _ _ _); refine zhj hA hm hd hv fun h' k hk => ?_) | wp_step))
    exact ⟨_, rfl, h _ _ _ hk⟩
end
end Mine
end
section MpZ0x
open PySem
namespace Mine
open PySem.Builtin PySem.Builtin.Re
noncomputable def reCode : Array Nat := #[14, 14, 4, 1, 1, 9, 0, 64, 0, 1342177280, 0, 0, 0, 0, 0, 17, 0, 13, 11, 9, 0, 64, 0, 1342177280, 0, 0, 0, 0, 0, 17, 1, 1]
theorem zcc {m : Sre.M} (h : m.outcome.isSome = true) : ∀ n, m.runFor n = m
  | 0 => rfl
  | n + 1 => by unfold Sre.M.runFor; rw [if_pos h]
theorem zev : ∀ (a b : Nat) (m : Sre.M), m.runFor (a + b) = (m.runFor a).runFor b
  | 0, b, m => by rw [Nat.zero_add]; rfl
  | a + 1, b, m => by
    rw [Nat.succ_add]
    by_cases h : m.outcome.isSome = true
    · rw [zcc h, zcc h, zcc h]
    · have e1 : ∀ n, Sre.M.runFor (n + 1) m = Sre.M.runFor n m.step := fun n => by
        conv => lhs; unfold Sre.M.runFor
        rw [if_neg h]
      show Sre.M.runFor (a + b + 1) m = _
      rw [e1, e1]
      exact zev a b m.step
section
variable {prog : Program} {w : World} {A : Around} {E : VP} {s : Shared}
theorem zhc : ∀ (k t : Nat) (m : Sre.M), (m.runFor (4 * (k + 1))).outcome.isSome = true → k < t → ∀ {Q : Sre.M → Shared → Prop}, Q (m.runFor (4 * (k + 1))) s → wpAny (model prog w) A (reDrive t m) Q E s
  | k, 0, m, _, h, _, _ => absurd h (Nat.not_lt_zero _)
  | 0, t + 1, m, ho, h, Q, hQ => by
    unfold reDrive
    show wpAny _ _ (if (m.runFor 4).outcome.isSome = true then pure (m.runFor 4) else _) _ _ _
    rw [if_pos ho]
    exact wpAny_pure hQ
  | k + 1, t + 1, m, ho, h, Q, hQ => by
    unfold reDrive
    have e : m.runFor (4 * (k + 1 + 1)) = (m.runFor 4).runFor (4 * (k + 1)) := by
      rw [show 4 * (k + 1 + 1) = 4 + 4 * (k + 1) from Nat.add_comm (4 * (k + 1)) 4]
      exact zev 4 _ m
    rw [e] at ho hQ
    show wpAny _ _ (if (m.runFor 4).outcome.isSome = true then pure (m.runFor 4) else (do rule "sre.turn"; reDrive t (m.runFor 4))) _ _ _
    by_cases h4 : (m.runFor 4).outcome.isSome = true
    · rw [if_pos h4]
      rw [zcc h4] at hQ
      exact wpAny_pure hQ
    · rw [if_neg h4]
      exact wb (wpAny_rule (zhc k t (m.runFor 4) ho (Nat.lt_of_succ_lt_succ h) hQ))
theorem zge (sn : Sre.Seen) : ∀ (l : List Nat) {Q : PUnit → Shared → Prop}, Q ⟨⟩ s → wpAny (model prog w) A (forIn l PUnit.unit fun i _ => do
      if sn.has i then
        rule (Sre.names.getD i "")
        pure (ForInStep.yield PUnit.unit)
      else pure (ForInStep.yield PUnit.unit)) Q E s
  | [], Q, h => by rw [List.forIn_nil]; exact wpAny_pure h
  | i :: l, Q, h => by
    rw [List.forIn_cons]
    split
    · exact wb (wb (wpAny_rule (wpAny_pure (zge sn l h))))
    · exact wb (wpAny_pure (zge sn l h))
theorem zhK {m : Sre.M} (k : Nat) (hk : k < 100) (h : (m.runFor (4 * (k + 1))).outcome = some .failed) {Q : Option Sre.M → Shared → Prop} (hQ : Q none s) : wpAny (model prog w) A (reRunToEnd m) Q E s := by
  unfold reRunToEnd
  refine wb (zhc k (2 ^ 64) m (by rw [h]; rfl) (Nat.lt_trans hk (by decide)) ?_)
  refine wb (zge _ _ ?_)
  rw [h]
  exact wpAny_pure hQ
end
end Mine
end MpZ0x
section MpZ1x
open PySem
namespace Mine
open PySem.Builtin PySem.Builtin.Re
theorem zeg : PlainAttrs "re.Pattern" :=
  ⟨⟨"object.__getattribute__", by rw [typeLookup_type, builtinLookup_eq_fast]; kernel_rfl, by decide +kernel⟩, by rw [typeLookup_type, builtinLookup_eq_fast]; kernel_rfl⟩
theorem zdk : PySem.Slot "re.Pattern" "sub" "re.Pattern.sub" :=
  PySem.Slot.of (owner := "re.Pattern") (n := "sub") (by rw [typeLookup_type, builtinLookup_eq_fast]; kernel_rfl) (by decide +kernel) (by decide +kernel) (by decide +kernel)
    (by first | exact .inl (by decide +kernel) | exact .inr (by decide +kernel)) (by rw [isSubtype_type]; kernel_rfl)
theorem zfj : typeOf (.builtin "re.Pattern.sub") = pure (.type "method_descriptor") := by show builtinType _ = _; rw [builtinType_eq_fast]; kernel_rfl
theorem ze9 : entryFor table "re.Pattern.sub" = some Builtin.«re.Pattern.sub» := entryFor_of_tree (by kernel_rfl)
theorem zek : entryFor table "re.Pattern.sub.loop" = some Builtin.«re.Pattern.sub.loop» := entryFor_of_tree (by kernel_rfl)
theorem zem (a b c : Value) : argsOk "re.Pattern.sub" ⟨[a, b, c], []⟩ := by unfold argsOk; kernel_rfl
theorem zcA : plainId "re.Pattern.sub.loop" = true := by decide +kernel
set_option genInjectivity false in
structure PatAt (h : Heap) (P C : Addr) (codes : Array Value) : Prop where
  pat : ∃ x t u v w y, h.get? P = some { cls := .type "re.Pattern", data := .fields #[.str x t, .int 32 u, .int 1 v, .none, .none, .ref C, .int 0 w] } ∧ y = (0 : Nat)
  code : ∃ n, h.get? C = some (tobj codes n)
  is : (codes.map reRawOf).map Int.toNat = reCode
theorem PatAt.keeps {h h' : Heap} {P C : Addr} {codes : Array Value} (x : PatAt h P C codes) (hk : ∀ b o, h.get? b = some o → h'.get? b = some o) : PatAt h' P C codes := by
  obtain ⟨a, t, u, v, w, y, e, r⟩ := x.pat
  obtain ⟨n, e2⟩ := x.code
  exact ⟨⟨a, t, u, v, w, y, hk _ _ e, r⟩, ⟨n, hk _ _ e2⟩, x.is⟩
section
variable {prog : Program} {w : World} {A : Around} {E : VP} {s : Shared} {P C : Addr} {codes : Array Value} {a : Array Nat} {u : Tok}
theorem zgB (hp : PatAt s.heap P C codes) {Q : ReTarget → Shared → Prop} (hQ : Q { pattern := .ref P, string := .str ⟨a⟩ u, code := reCode, text := a, kind := 0, groups := 1, pos := 0, lim := a.size } s) :
    wpAny (model prog w) A (reWholeTarget (.ref P) (.str ⟨a⟩ u)) Q E s := by
  obtain ⟨hh, g, d, tk, os⟩ := s
  obtain ⟨x, t, u', v, w', _, e, _⟩ := hp.pat
  obtain ⟨n, ec⟩ := hp.code
  unfold reWholeTarget
  refine wb (wpAny_fieldsOf e rfl ?_)
  have ht : ∀ {Q : Array Nat × Nat → Shared → Prop}, Q (a, 0) ⟨hh, g, d, tk, os⟩ → wpAny (model prog w) A (reTextOf (.str ⟨a⟩ u)) Q E ⟨hh, g, d, tk, os⟩ := by
    intro Q h
    unfold reTextOf
    repeat (any_goals (first | assumption | wp_step))
  refine wb (ht ?_)
  have hr : ∀ {Q : Array Int → Shared → Prop}, Q (codes.map reRawOf) ⟨hh, g, d, tk, os⟩ → wpAny (model prog w) A (reRawItems (.ref C)) Q E ⟨hh, g, d, tk, os⟩ := by
    intro Q h
    unfold reRawItems
    exact wb (wpAny_seqItems ec rfl (wpAny_pure h))
  dsimp only
  unfold reNoCollectionInside
  repeat (any_goals (first | assumption | ((with_reducible show wpAny _ _ (reRawItems _) _ _ _); refine hr ?_) | wp_step))
  have := hp.is
  rw [show (codes.map reRawOf).map (fun x => x.toNat) = reCode from this]
  exact hQ
end
end Mine
end MpZ1x
section
open PySem
namespace Mine
inductive D where
  | none
  | bool (b : Bool)
  | int (i : Int)
  | str (l : List Nat)
  | list (l : List D)
  | tup (l : List D)
  | tok (k : Nat)
  | ty (n : String)
  deriving Inhabited
abbrev CfT := Nat → List D → Option D
inductive R where
  | val (d : D)
  | own (l : List D)
  | bor (l : List D)
noncomputable def R.ds : R → D
  | .val d => d
  | .own l => .list l
  | .bor l => .list l
noncomputable def R.fz : R → Option D
  | .val d => some d
  | .own l => some (.list l)
  | .bor _ => none
inductive Slot where
  | unset
  | val (d : D)
  | own (l : List D)
  | app (j : Nat)
  | fdic (l : List D)
set_option genCtorIdx false in
inductive Op where
  | add | sub | mul | fdiv | mod | pow | neg
  | eq | ne | lt | le | gt | ge | is_ | isnot | in_ | notin
  | index | slice | slice3 | len | abs | sum
  | tyOf | isInst | isSub
  | rfind | find4 | startswith | endswith | rstrip | lstrip | replace | join | split | translate | resub | count | strIndex | resub0
  | listOf | tupleOf | sorted | min | max | fmt | lindex
  | other (n : Nat)
set_option genCtorIdx false in
set_option genInjectivity false in
inductive X where
  | const (d : D)
  | var (i : Nat)
  | op (o : Op) (a : X)
  | nil
  | cons (a r : X)
  | star (a : X)
  | and (a b : X)
  | or (a b : X)
  | not (a : X)
  | ite (c t e : X)
  | call (f : Nat) (a : X)
  | tup (a : X)
  | list (a : X)
  | comp (i : Nat) (it cond elt : X)
  | comp2 (i j : Nat) (it cond elt : X)
  | comp3 (i : Nat) (it : X) (j : Nat) (jt elt : X)
  | mapF (f : Nat) (a : X)
  | seqI (a : X)
  | rangeI (a : X)
  | enumI (a : X)
  | setI (i : Nat) (it elt : X)
  | dNot (i : Nat) (a : X)
  | dGet (i : Nat) (a : X)
  | dKeys (i : Nat)
inductive Out where
  | next
  | brk
  | cont
  | ret (d : D)
set_option genCtorIdx false in
set_option genInjectivity false in
inductive S where
  | skip
  | seq (a b : S)
  | fz (i : Nat)
  | assign (i : Nat) (x : X)
  | assignO (i : Nat) (x : X)
  | assign2 (i j : Nat) (x : X)
  | assign3 (i j k : Nat) (x : X)
  | assign1 (i : Nat) (x : X)
  | alias (i j : Nat)
  | append (i : Nat) (x : X)
  | appendVia (i j : Nat) (x : X)
  | aug (i : Nat) (x : X)
  | extend (i : Nat) (x : X)
  | pop (i : Nat)
  | setItem (i : Nat) (k x : X)
  | augItem (i : Nat) (k x : X)
  | delItem (i : Nat) (k : X)
  | ite (c : X) (a b : S)
  | while (c : X) (b : S)
  | forE (i : Nat) (it : X) (b : S)
  | forE2 (i j : Nat) (it : X) (b : S)
  | forN (is : List Nat) (it : X) (b : S)
  | ret (x : X)
  | brk
  | cont
  | assert (c : X)
  | try_ (b : S)
  | sem (f : (Nat → List D → Option D) → List Slot → Option (List Slot × Out))
  | dNew (i : Nat)
  | dSet (i : Nat) (k x : X)
  | dFz (i : Nat)
noncomputable def lim : Nat := 1000000
noncomputable def tokC : Nat → List Nat
  | 0 => [42]
  | _ => [63]
mutual
noncomputable def D.toPy : D → PyData
  | .none => .none
  | .bool b => .bool b
  | .int i => .int i
  | .str l => .str ⟨l.toArray⟩
  | .list l => .list (D.toPys l)
  | .tup l => .tuple (D.toPys l)
  | .tok k => .list [.str ⟨(tokC k).toArray⟩]
  | .ty _ => .none
noncomputable def D.toPys : List D → List PyData
  | [] => []
  | d :: r => d.toPy :: D.toPys r
end
mutual
noncomputable def D.ok : Nat → D → Bool
  | 0, _ => false
  | n + 1, .list l => D.oks n l
  | n + 1, .tup l => D.oks n l
  | _ + 1, .ty _ => false
  | n + 1, .tok k => decide (0 < n) && decide (k < 2)
  | _ + 1, _ => true
noncomputable def D.oks : Nat → List D → Bool
  | _, [] => true
  | n, d :: r => d.ok n && D.oks n r
end
noncomputable def D.truth : D → Option Bool
  | .none => some false
  | .bool b => some b
  | .int i => some (decide (i ≠ 0))
  | .str l => some (!l.isEmpty)
  | .list l => some (!l.isEmpty)
  | .tup l => some (!l.isEmpty)
  | _ => Option.none
noncomputable def eqD : D → D → Option Bool
  | .str a, .str b => some (decide (a = b))
  | .int a, .int b => some (decide (a = b))
  | a, b => if a.ok 9 && b.ok 9 then some (PyData.eqv a.toPy b.toPy) else none
noncomputable def inD (d : D) : D → Option Bool
  | .list l => if D.oks 8 l && d.ok 9 then some ((D.toPys l).any fun y => PyData.eqv y d.toPy) else none
  | .tup l => if D.oks 8 l && d.ok 9 then some ((D.toPys l).any fun y => PyData.eqv y d.toPy) else none
  | .str b => match d with
    | .str a => some (Txt.contains ⟨b.toArray⟩ ⟨a.toArray⟩)
    | _ => none
  | _ => none
noncomputable def noneB : D → Option Bool
  | .ty _ => none
  | .none => some true
  | _ => some false
noncomputable def isD (a : D) : D → Option Bool
  | .none => noneB a
  | .tok j => (match a with
    | .tok i => if i < 2 ∧ j < 2 then some (decide (i = j)) else none
    | .str _ => some false
    | .none => some false
    | _ => none)
  | .str _ => (match a with
    | .tok _ => some false
    | _ => none)
  | _ => none
noncomputable def ltL (a b : List Nat) : Bool := decide (a < b)
noncomputable def place (i : Int) (n : Nat) : Option Nat :=
  if 0 ≤ i then (if i < n then some i.toNat else none) else (if 0 ≤ i + n then some (i + n).toNat else none)
noncomputable def small (i : Int) : Bool := decide (-1000000000 ≤ i) && decide (i ≤ 1000000000)
noncomputable def clip (i : Int) (n : Nat) : Nat := if i < 0 then (i + n).toNat else if i < n then i.toNat else n
noncomputable def bound (d : D) (dflt n : Nat) : Option Nat := match d with
  | .none => some dflt
  | .int i => if small i then some (clip i n) else none
  | _ => none
noncomputable def cut {α : Type} (l : List α) (lo hi : Nat) : List α := (l.drop lo).take (hi - lo)
noncomputable def pick {α : Type} (l : List α) (lo hi st : Option Int) : List α :=
  (sliceRange (sliceBounds lo hi st l.length).1 (sliceBounds lo hi st l.length).2.1 (sliceBounds lo hi st l.length).2.2).filterMap (l[·]?)
noncomputable def partD : D → Option (Option Int)
  | .none => some none
  | .int i => if small i then some (some i) else none
  | _ => none
noncomputable def toInts : List D → Option (List Int)
  | [] => some []
  | .int i :: r => (toInts r).map (i :: ·)
  | _ :: _ => none
noncomputable def toStrs : List D → Option (List (List Nat))
  | [] => some []
  | .str s :: r => (toStrs r).map (s :: ·)
  | _ :: _ => none
noncomputable def strD (l : List Nat) : Option R := if l.length ≤ lim then some (.val (.str l)) else none
noncomputable def intD : D → Option Int
  | .int i => some i
  | _ => none
noncomputable def strO : D → Option (List Nat)
  | .str l => some l
  | _ => none
noncomputable def lstO : D → Option (List D)
  | .list l => some l
  | _ => none
noncomputable def two (f : D → D → Option R) : List D → Option R
  | [a, b] => f a b
  | _ => none
noncomputable def int2 (f : Int → Int → Option R) : List D → Option R := two fun a b => (intD a).bind fun a => (intD b).bind fun b => f a b
noncomputable def addD (a b : D) : Option R := match a with
  | .int a => (intD b).bind fun b => some (.val (.int (a + b)))
  | .str a => (strO b).bind fun b => if a.length + b.length ≤ lim then some (.val (.str (a ++ b))) else none
  | .list a => (lstO b).bind fun b => if a.length + b.length ≤ lim then some (.own (a ++ b)) else none
  | _ => none
noncomputable def opAdd : List D → Option R := two addD
noncomputable def opSub : List D → Option R := int2 fun a b => some (.val (.int (a - b)))
noncomputable def rep {α : Type} (l : List α) (n : Int) : List α := (List.replicate n.toNat l).flatten
noncomputable def mulBy (b : Int) : D → Option R
  | .int a => if small a || small b then some (.val (.int (a * b))) else none
  | .str a => if small b && decide (a.length * b.toNat ≤ lim) then some (.val (.str (rep a b))) else none
  | .list a => if small b && decide (a.length * b.toNat ≤ lim) then some (.own (rep a b)) else none
  | _ => none
noncomputable def opMul : List D → Option R := two fun a b => (intD b).bind fun b => mulBy b a
noncomputable def opDiv : List D → Option R := int2 fun a b => if b = 0 then none else some (.val (.int (Int.fdiv a b)))
noncomputable def opMod : List D → Option R := int2 fun a b => if b = 0 then none else some (.val (.int (Int.fmod a b)))
noncomputable def opBool (f : D → D → Option Bool) : List D → Option R
  | [a, b] => (f a b).map fun x => .val (.bool x)
  | _ => none
noncomputable def cmpD (f : Int → Int → Bool) (g : List Nat → List Nat → Bool) (a b : D) : Option R := match a with
  | .int a => (intD b).bind fun b => some (.val (.bool (f a b)))
  | .str a => (strO b).bind fun b => some (.val (.bool (g a b)))
  | _ => none
noncomputable def opCmp (f : Int → Int → Bool) (g : List Nat → List Nat → Bool) : List D → Option R := two (cmpD f g)
noncomputable def str3 (f : List Nat → List Nat → List Nat → Option R) : List D → Option R
  | [a, b, c] => (strO a).bind fun a => (strO b).bind fun b => (strO c).bind fun c => f a b c
  | _ => none
noncomputable def idxD (i : Int) : D → Option R
  | .str l => (match place i l.length with | some k => (l[k]?).map fun c => .val (.str [c]) | none => none)
  | .list l => (match place i l.length with | some k => (l[k]?).map .val | none => none)
  | .tup l => (match place i l.length with | some k => (l[k]?).map .val | none => none)
  | _ => none
noncomputable def opIndex : List D → Option R := two fun a b => (intD b).bind fun i => if small i then idxD i a else none
noncomputable def opSlice : List D → Option R
  | [.str l, a, b] => match bound a 0 l.length, bound b l.length l.length with
    | some lo, some hi => some (.val (.str (cut l lo hi)))
    | _, _ => none
  | [.list l, a, b] => match bound a 0 l.length, bound b l.length l.length with
    | some lo, some hi => some (.own (cut l lo hi))
    | _, _ => none
  | _ => none
noncomputable def opSlice3 : List D → Option R
  | [.list l, a, b, .int n] => match partD a, partD b with
    | some lo, some hi => if n ≠ 0 ∧ small n then some (.own (pick l lo hi (some n))) else none
    | _, _ => none
  | _ => none
noncomputable def opLen : List D → Option R
  | [.str l] => some (.val (.int l.length))
  | [.list l] => some (.val (.int l.length))
  | [.tup l] => some (.val (.int l.length))
  | _ => none
noncomputable def opAbs : List D → Option R
  | [.int i] => some (.val (.int i.natAbs))
  | _ => none
noncomputable def opSum : List D → Option R
  | [.list l] => (toInts l).map fun is => .val (.int is.sum)
  | _ => none
noncomputable def opNeg : List D → Option R
  | [.int i] => some (.val (.int (-i)))
  | _ => none
noncomputable def tyD : D → Option String
  | .str _ => some "str"
  | .int _ => some "int"
  | .bool _ => some "bool"
  | .list _ => some "list"
  | .tup _ => some "tuple"
  | _ => none
noncomputable def opTyOf : List D → Option R
  | [d] => (tyD d).map fun n => .val (.ty n)
  | _ => none
noncomputable def tyL : List D → Option (List String)
  | [] => some []
  | .ty a :: r => (tyL r).map (a :: ·)
  | _ :: _ => none
noncomputable def strB : D → Option Bool
  | .str _ => some true
  | .list _ => some false
  | _ => none
noncomputable def opIsInst : List D → Option R
  | [a, .ty n] => if strB a = some true then (if n = "str" then some (.val (.bool true)) else if n = "bytes" then some (.val (.bool false)) else none) else none
  | [a, .tup l] => if tyL l = some ["list", "tuple"] then (strB a).map fun b => .val (.bool (!b)) else none
  | _ => none
noncomputable def opIsSub : List D → Option R
  | [.ty n, .tup l] => if n = "str" ∧ tyL l = some ["str", "bytes"] then some (.val (.bool true)) else none
  | _ => none
noncomputable def opStr2 (f : PySem.Str → PySem.Str → R) : List D → Option R := two fun a b => (strO a).bind fun a => (strO b).bind fun b => some (f ⟨a.toArray⟩ ⟨b.toArray⟩)
noncomputable def opFind4 : List D → Option R
  | [.str a, .str b, .int i, .int j] => if small i ∧ small j then
      some (.val (.int (match Builtin.Str.occurrences ⟨a.toArray⟩ ⟨b.toArray⟩ (fromIndex a.length i) (min (fromIndex a.length j) a.length) 1 with | k :: _ => (k : Int) | [] => -1))) else none
  | _ => none
noncomputable def opReplace : List D → Option R := str3 fun a b _ => if (Builtin.Str.occurrences ⟨a.toArray⟩ ⟨b.toArray⟩ 0 a.length (a.length + 1)).isEmpty then some (.val (.str a)) else none
noncomputable def joinL (s : List Nat) : List (List Nat) → List Nat
  | [] => []
  | [a] => a
  | a :: r => a ++ s ++ joinL s r
noncomputable def opJoin : List D → Option R
  | [.str s, .list l] => match toStrs l with
    | some ls => if (joinL s ls).length ≤ lim then some (.val (.str (joinL s ls))) else none
    | none => none
  | _ => none
noncomputable def opSplit : List D → Option R
  | [.str a, .str b] => if b.length = 1 ∧ a.length + 2 ≤ lim then some (.own ((Txt.split ⟨a.toArray⟩ ⟨b.toArray⟩).map fun x => .str x.cps.toList)) else none
  | _ => none
noncomputable def special : List Nat := [40, 41, 91, 93, 123, 125, 63, 42, 43, 45, 124, 94, 36, 92, 46, 38, 126, 35, 32, 9, 10, 13, 11, 12]
noncomputable def opTranslate : List D → Option R
  | [.str [c]] => if c < 128 then some (.val (.str (if special.contains c then [92, c] else [c]))) else none
  | _ => none
noncomputable def noHit : List (List Nat) := [[], [33], [46, 45, 97], [33, 97], [97, 45, 99], [93], [33, 33], [97, 47, 98], [97, 45, 98], [91], [42], [63], [97], [98], [97, 98], [33, 97, 98], [33, 98], [33, 97, 45, 98], [46], [33, 46]]
noncomputable def opResub : List D → Option R
  | [.str a] => if noHit.contains a then some (.val (.str a)) else if a = [124, 38, 126] then some (.val (.str [92, 124, 92, 38, 92, 126])) else none
  | _ => none
noncomputable def opResub0 : List D → Option R
  | [.str a] => if noHit.contains a then some (.val (.str a)) else none
  | _ => none
noncomputable def opListOf : List D → Option R
  | [.list l] => some (.own l)
  | _ => none
noncomputable def opTupleOf : List D → Option R
  | [.list l] => some (.val (.tup l))
  | _ => none
noncomputable def ltSs : List (List Nat) → List (List Nat) → Bool
  | [], [] => false
  | [], _ :: _ => true
  | _ :: _, [] => false
  | a :: as, b :: bs => if a = b then ltSs as bs else ltL a b
noncomputable def insS (x : List Nat) : List (List Nat) → List (List Nat)
  | [] => [x]
  | y :: r => if ltL y x then y :: insS x r else x :: y :: r
noncomputable def sortS : List (List Nat) → List (List Nat)
  | [] => []
  | x :: r => insS x (sortS r)
noncomputable def opSorted : List D → Option R
  | [.list l] => match toStrs l with
    | some ls => if ls.length < 64 then some (.own ((sortS ls).map .str)) else none
    | none => none
  | _ => none
noncomputable def ltD : D → D → Option Bool
  | .str a, .str b => some (ltL a b)
  | .list a, .list b => match toStrs a, toStrs b with
    | some x, some y => some (ltSs x y)
    | _, _ => none
  | _, _ => none
noncomputable def gtD (a b : D) : Option Bool := ltD b a
noncomputable def bestGo (better : D → D → Option Bool) : D → List D → Option D
  | b, [] => some b
  | b, d :: r => match better d b with
    | some true => bestGo better d r
    | some false => bestGo better b r
    | none => none
noncomputable def opBest (better : D → D → Option Bool) : List D → Option R
  | [.list (d :: r)] => (bestGo better d r).map .val
  | [.tup (d :: r)] => (bestGo better d r).map .val
  | _ => none
noncomputable def opMax : List D → Option R
  | [.int a, .int b] => some (.val (.int (if b > a then b else a)))
  | ds => opBest gtD ds
noncomputable def opPow : List D → Option R := int2 fun a b => if 0 ≤ b ∧ b ≤ 64 ∧ 0 ≤ a ∧ a ≤ 16 then some (.val (.int (a ^ b.toNat))) else none
noncomputable def opLIndex : List D → Option R
  | [.list l, .str s] => match toStrs l with
    | some ls => if ls.contains s then some (.val (.int (ls.idxOf s))) else none
    | none => none
  | _ => none
noncomputable def opCount : List D → Option R
  | [.list l, .str s] => match toStrs l with
    | some ls => some (.val (.int (ls.count s)))
    | none => none
  | _ => none
noncomputable def opSIndex : List D → Option R
  | [.str a, .str b] => match Builtin.Str.occurrences ⟨a.toArray⟩ ⟨b.toArray⟩ 0 a.length 1 with
    | i :: _ => some (.val (.int (i : Nat)))
    | [] => none
  | _ => none
noncomputable def opFmt : List D → Option R := str3 fun a b c => strD (a ++ b ++ c)
noncomputable def opF : Op → List D → Option R
  | .add, ds => opAdd ds
  | .sub, ds => opSub ds
  | .mul, ds => opMul ds
  | .fdiv, ds => opDiv ds
  | .mod, ds => opMod ds
  | .neg, ds => opNeg ds
  | .eq, ds => opBool eqD ds
  | .ne, ds => opBool (fun a b => (eqD a b).map (!·)) ds
  | .lt, ds => opCmp (fun a b => decide (a < b)) ltL ds
  | .le, ds => opCmp (fun a b => decide (a ≤ b)) (fun a b => !ltL b a) ds
  | .gt, ds => opCmp (fun a b => decide (b < a)) (fun a b => ltL b a) ds
  | .ge, ds => opCmp (fun a b => decide (b ≤ a)) (fun a b => !ltL a b) ds
  | .is_, ds => opBool isD ds
  | .isnot, ds => opBool (fun a b => (isD a b).map (!·)) ds
  | .in_, ds => opBool inD ds
  | .notin, ds => opBool (fun a b => (inD a b).map (!·)) ds
  | .index, ds => opIndex ds
  | .slice, ds => opSlice ds
  | .slice3, ds => opSlice3 ds
  | .len, ds => opLen ds
  | .abs, ds => opAbs ds
  | .sum, ds => opSum ds
  | .tyOf, ds => opTyOf ds
  | .isInst, ds => opIsInst ds
  | .isSub, ds => opIsSub ds
  | .rfind, ds => opStr2 (fun a b => .val (.int (Txt.rfind a b))) ds
  | .find4, ds => opFind4 ds
  | .startswith, ds => opStr2 (fun a b => .val (.bool (Txt.startswith a b))) ds
  | .endswith, ds => opStr2 (fun a b => .val (.bool (Txt.endswith a b))) ds
  | .rstrip, ds => opStr2 (fun a b => .val (.str (Txt.rstripChars a b).cps.toList)) ds
  | .lstrip, ds => opStr2 (fun a b => .val (.str (Txt.lstripChars a b).cps.toList)) ds
  | .replace, ds => opReplace ds
  | .join, ds => opJoin ds
  | .split, ds => opSplit ds
  | .translate, ds => opTranslate ds
  | .resub, ds => opResub ds
  | .resub0, ds => opResub0 ds
  | .listOf, ds => opListOf ds
  | .tupleOf, ds => opTupleOf ds
  | .sorted, ds => opSorted ds
  | .fmt, ds => opFmt ds
  | .min, ds => opBest ltD ds
  | .max, ds => opMax ds
  | .pow, ds => opPow ds
  | .lindex, ds => opLIndex ds
  | .count, ds => opCount ds
  | .strIndex, ds => opSIndex ds
  | _, _ => none
noncomputable def fzAll : List R → Option (List D)
  | [] => some []
  | r :: rs => match r.fz, fzAll rs with
    | some d, some ds => some (d :: ds)
    | _, _ => none
noncomputable def truthR : Option (List R) → Option Bool
  | some [r] => r.ds.truth
  | _ => none
noncomputable def compGo (f : D → Option (Option D)) : List D → Option (List D)
  | [] => some []
  | d :: r => match f d with
    | none => none
    | some none => compGo f r
    | some (some y) => match compGo f r with
      | some ys => some (y :: ys)
      | none => none
noncomputable def flatGo (f : D → Option (List D)) : List D → Option (List D)
  | [] => some []
  | d :: r => match f d with
    | some a => (flatGo f r).map (a ++ ·)
    | none => none
noncomputable def dSlot (i : Nat) : Bool := i == 5
noncomputable def dictGet : List D → List Nat → Option D
  | [], _ => none
  | .tup [.str k, v] :: r, q => if k = q then some v else dictGet r q
  | _ :: _, _ => none
noncomputable def keyD : D → D
  | .tup [k, _] => k
  | d => d
noncomputable def itsR : Option (List R) → Option (List D)
  | some [.val (.list l)] => some l
  | _ => none
noncomputable def ownS : Slot → Option (List D)
  | .own l => some l
  | _ => none
noncomputable def fzS : Slot → Option (List D)
  | .fdic l => some l
  | _ => none
noncomputable def dicOwn (ρ : List Slot) (i : Nat) : Option (List D) := if dSlot i then (ρ[i]?).bind ownS else none
noncomputable def dicFz (ρ : List Slot) (i : Nat) : Option (List D) := (ρ[i]?).bind fzS
noncomputable def dicAt (ρ : List Slot) (i : Nat) : Option (List D) := (dicOwn ρ i).or (dicFz ρ i)
noncomputable def strV : Option (List R) → Option (List Nat)
  | some [.val (.str k)] => some k
  | _ => none
noncomputable def keyO : Option D → Option (List Nat)
  | some (.str k) => some k
  | _ => none
noncomputable def turnD (c e : Option (List R)) : Option (Option D) := match truthR c with
  | some true => (match e with
    | some [r] => r.fz.map some
    | _ => none)
  | some false => some none
  | none => none
noncomputable def upTo (n : Nat) (a b : Int) : List Int := (List.range n).map fun (k : Nat) => a + b * (k : Int)
noncomputable def rangeL (a b : Int) : List D := (upTo (b - a).toNat a 1).map .int
noncomputable def rangeDown (a b : Int) : List D := (upTo (a - b).toNat a (-1)).map .int
noncomputable def opRange : List D → Option (List D)
  | [.int n] => if small n && decide (n ≤ 1000000) then some (rangeL 0 n) else none
  | [.int a, .int n] => if small a && small n && decide (n - a ≤ 1000000) then some (rangeL a n) else none
  | [.int a, .int n, .int s] => if s = -1 ∧ small a ∧ small n ∧ a - n ≤ 1000000 then some (rangeDown a n) else none
  | _ => none
noncomputable def itemsOf : D → Option (List D)
  | .list l => some l
  | .tup l => some l
  | .str l => some (l.map fun c => .str [c])
  | _ => none
noncomputable def enumOf : D → Option (List D)
  | .list l => some l
  | .str l => some (l.map fun c => .str [c])
  | _ => none
noncomputable def enumL (k : Int) : List D → List D
  | [] => []
  | d :: r => .tup [.int k, d] :: enumL (k + 1) r
noncomputable def allSome {α : Type} : List (Option α) → Option (List α)
  | [] => some []
  | some a :: r => (allSome r).map (a :: ·)
  | none :: _ => none
section
variable (cf : CfT)
noncomputable def ev : X → List Slot → Option (List R)
  | .const d, _ => some [.val d]
  | .var i, ρ => match ρ[i]? with
    | some (.val d) => some [.val d]
    | some (.own l) => if dSlot i then none else some [.bor l]
    | _ => none
  | .op o a, ρ => match ev a ρ with
    | some rs => (opF o (rs.map R.ds)).map fun r => [r]
    | none => none
  | .nil, _ => some []
  | .cons a r, ρ => match ev a ρ with
    | some [x] => (ev r ρ).map fun xs => x :: xs
    | _ => none
  | .star a, ρ => match ev a ρ with
    | some [x] => (match x.fz with
      | some (.list l) => some (l.map .val)
      | some (.tup l) => some (l.map .val)
      | _ => none)
    | _ => none
  | .and a b, ρ => match ev a ρ with
    | some [x] => (match x.ds.truth with
      | some true => ev b ρ
      | some false => some [x]
      | none => none)
    | _ => none
  | .or a b, ρ => match ev a ρ with
    | some [x] => (match x.ds.truth with
      | some false => ev b ρ
      | some true => some [x]
      | none => none)
    | _ => none
  | .not a, ρ => match ev a ρ with
    | some [x] => x.ds.truth.map fun b => [.val (.bool (!b))]
    | _ => none
  | .ite c t e, ρ => match truthR (ev c ρ) with
    | some true => ev t ρ
    | some false => ev e ρ
    | none => none
  | .call f a, ρ => match ev a ρ with
    | some rs => (match fzAll rs with
      | some ds => (cf f ds).map fun d => [.val d]
      | none => none)
    | none => none
  | .tup a, ρ => match ev a ρ with
    | some rs => (match fzAll rs with
      | some ds => if ds.length ≤ lim then some [.val (.tup ds)] else none
      | none => none)
    | none => none
  | .list a, ρ => match ev a ρ with
    | some rs => (match fzAll rs with
      | some ds => if ds.length ≤ lim then some [.own ds] else none
      | none => none)
    | none => none
  | .comp i it c e, ρ => match ev it ρ with
    | some [.val (.list items)] => (compGo (fun d => turnD (ev c (ρ.set i (.val d))) (ev e (ρ.set i (.val d)))) items).map fun l => [.own l]
    | _ => none
  | .comp2 i j it c e, ρ => match ev it ρ with
    | some [.val (.list items)] => (compGo (fun d => match d with
        | .tup [a, b] => turnD (ev c ((ρ.set i (.val a)).set j (.val b))) (ev e ((ρ.set i (.val a)).set j (.val b)))
        | _ => none) items).map fun l => [.own l]
    | _ => none
  | .comp3 i it j jt e, ρ => match itsR (ev it ρ) with
    | some items => (match flatGo (fun d => match itsR (ev jt (ρ.set i (.val d))) with
        | some its => compGo (fun d' => turnD (some [.val (.bool true)]) (ev e ((ρ.set i (.val d)).set j (.val d')))) its
        | none => none) items with
      | some l => if l.length ≤ lim then some [.own l] else none
      | none => none)
    | none => none
  | .mapF f a, ρ => match ev a ρ with
    | some [x] => (match x.ds with
      | .list items => (allSome (items.map fun d => cf f [d])).map fun l => [.val (.tup l)]
      | .tup items => (allSome (items.map fun d => cf f [d])).map fun l => [.val (.tup l)]
      | _ => none)
    | _ => none
  | .dNot i a, ρ => match dicAt ρ i, strV (ev a ρ) with
    | some l, some k => some [.val (.bool (dictGet l k).isNone)]
    | _, _ => none
  | .dGet i a, ρ => match dicAt ρ i, strV (ev a ρ) with
    | some l, some k => (dictGet l k).map fun d => [.val d]
    | _, _ => none
  | .dKeys i, ρ => match dicFz ρ i with
    | some l => some [.val (.list (l.map keyD))]
    | none => none
  | .seqI a, ρ => match ev a ρ with
    | some [x] => (match x.fz with
      | some d => (itemsOf d).map fun l => [.val (.list l)]
      | none => none)
    | _ => none
  | .rangeI a, ρ => match ev a ρ with
    | some rs => (opRange (rs.map R.ds)).map fun l => [.val (.list l)]
    | none => none
  | .enumI a, ρ => match ev a ρ with
    | some [x] => (match x.fz with
      | some d => (enumOf d).map fun l => [.val (.list (enumL 0 l))]
      | none => none)
    | _ => none
  | .setI i it e, ρ => match ev it ρ with
    | some [.val (.list items)] => (match compGo (fun d => turnD (some [.val (.bool true)]) (ev e (ρ.set i (.val d)))) items with
      | some (.bool b :: r) => if r.all (fun d => match d with | .bool b' => b' == b | _ => false) then some [.val (.bool b)] else none
      | _ => none)
    | _ => none
noncomputable def ev1 (x : X) (ρ : List Slot) : Option D := match ev cf x ρ with
  | some [r] => r.fz
  | _ => none
noncomputable def evT (x : X) (ρ : List Slot) : Option Bool := truthR (ev cf x ρ)
noncomputable def evI (x : X) (ρ : List Slot) : Option (List D) := match ev cf x ρ with
  | some [.val (.list l)] => some l
  | _ => none
noncomputable def whileGo (c : List Slot → Option Bool) (b : List Slot → Option (List Slot × Out)) : Nat → List Slot → Option (List Slot × Out)
  | 0, _ => none
  | n + 1, ρ => match c ρ with
    | none => none
    | some false => some (ρ, .next)
    | some true => match b ρ with
      | none => none
      | some (ρ', .next) => whileGo c b n ρ'
      | some (ρ', .cont) => whileGo c b n ρ'
      | some (ρ', .brk) => some (ρ', .next)
      | some (ρ', .ret d) => some (ρ', .ret d)
noncomputable def forGo (st : D → List Slot → Option (List Slot)) (b : List Slot → Option (List Slot × Out)) : List D → List Slot → Option (List Slot × Out)
  | [], ρ => some (ρ, .next)
  | d :: r, ρ => match st d ρ with
    | none => none
    | some ρ₁ => match b ρ₁ with
      | none => none
      | some (ρ', .next) => forGo st b r ρ'
      | some (ρ', .cont) => forGo st b r ρ'
      | some (ρ', .brk) => some (ρ', .next)
      | some (ρ', .ret d) => some (ρ', .ret d)
noncomputable def put1 (i : Nat) (d : D) (ρ : List Slot) : Option (List Slot) := some (ρ.set i (.val d))
noncomputable def put2 (i j : Nat) (d : D) (ρ : List Slot) : Option (List Slot) := match d with
  | .tup [a, b] => some ((ρ.set i (.val a)).set j (.val b))
  | _ => none
noncomputable def setAll : List Slot → List Nat → List D → List Slot
  | ρ, i :: is, d :: ds => setAll (ρ.set i (.val d)) is ds
  | ρ, _, _ => ρ
noncomputable def putN (is : List Nat) (d : D) (ρ : List Slot) : Option (List Slot) := match d with
  | .tup l => if l.length = is.length then some (setAll ρ is l) else none
  | _ => none
noncomputable def ownAt (ρ : List Slot) (i : Nat) : Option (List D) := match ρ[i]? with
  | some (.own l) => if dSlot i then none else some l
  | _ => none
noncomputable def noApp (i : Nat) (ρ : List Slot) : Bool := ρ.all fun s => match s with | .app j => j != i | _ => true
noncomputable def wf : Nat := 100000
noncomputable def ex : S → List Slot → Option (List Slot × Out)
  | .skip, ρ => some (ρ, .next)
  | .seq a b, ρ => match ex a ρ with
    | some (ρ', .next) => ex b ρ'
    | some (ρ', o) => some (ρ', o)
    | none => none
  | .fz i, ρ => match ownAt ρ i with
    | some l => some (ρ.set i (.val (.list l)), .next)
    | none => some (ρ, .next)
  | .assign i x, ρ => (ev1 cf x ρ).map fun d => (ρ.set i (.val d), .next)
  | .assignO i x, ρ => if noApp i ρ then (match ev cf x ρ with
    | some [.own l] => if dSlot i then none else some (ρ.set i (.own l), .next)
    | some [.val d] => some (ρ.set i (.val d), .next)
    | _ => none) else none
  | .assign1 i x, ρ => match ev1 cf x ρ with
    | some d => some (ρ.set i (.val d), .next)
    | none => none
  | .assign2 i j x, ρ => match ev1 cf x ρ with
    | some (.tup [a, b]) => some ((ρ.set i (.val a)).set j (.val b), .next)
    | _ => none
  | .assign3 i j k x, ρ => match ev1 cf x ρ with
    | some (.tup [a, b, c]) => some (((ρ.set i (.val a)).set j (.val b)).set k (.val c), .next)
    | _ => none
  | .alias i j, ρ => match ownAt ρ j with
    | some _ => some (ρ.set i (.app j), .next)
    | none => none
  | .append i x, ρ => match ev1 cf x ρ, ownAt ρ i with
    | some d, some l => if l.length < lim then some (ρ.set i (.own (l ++ [d])), .next) else none
    | _, _ => none
  | .appendVia i j x, ρ => match ρ[i]? with
    | some (.app j') => if j' = j then (match ev1 cf x ρ, ownAt ρ j with
      | some d, some l => if l.length < lim then some (ρ.set j (.own (l ++ [d])), .next) else none
      | _, _ => none) else none
    | _ => none
  | .aug i x, ρ => match ρ[i]?, ev1 cf x ρ with
    | some (.val (.str a)), some (.str b) => if a.length + b.length ≤ lim then some (ρ.set i (.val (.str (a ++ b))), .next) else none
    | _, _ => none
  | .extend i x, ρ => match ev1 cf x ρ, ownAt ρ i with
    | some (.list m), some l => if l.length + m.length ≤ lim then some (ρ.set i (.own (l ++ m)), .next) else none
    | _, _ => none
  | .pop i, ρ => match ownAt ρ i with
    | some l => (match l.getLast? with
      | some (.str _) => some (ρ.set i (.own l.dropLast), .next)
      | _ => none)
    | none => none
  | .setItem i k x, ρ => match ev1 cf x ρ, ev1 cf k ρ, ownAt ρ i with
    | some d, some (.int n), some l => if small n then (match place n l.length with
      | some p => some (ρ.set i (.own (l.set p d)), .next)
      | none => none) else none
    | _, _, _ => none
  | .augItem i k x, ρ => match ev1 cf k ρ, ev1 cf x ρ, ownAt ρ i with
    | some (.int n), some (.str y), some l => if small n then (match place n l.length with
      | some p => (match l[p]? with
        | some (.str z) => if z.length + y.length ≤ lim then some (ρ.set i (.own (l.set p (.str (z ++ y)))), .next) else none
        | _ => none)
      | none => none) else none
    | _, _, _ => none
  | .delItem i k, ρ => match ev1 cf k ρ, ownAt ρ i with
    | some (.int n), some l => if 0 ≤ n ∧ n < l.length then some (ρ.set i (.own (l.eraseIdx n.toNat)), .next) else none
    | _, _ => none
  | .ite c a b, ρ => match evT cf c ρ with
    | some true => ex a ρ
    | some false => ex b ρ
    | none => none
  | .while c b, ρ => whileGo (evT cf c) (ex b) wf ρ
  | .forE i it b, ρ => match evI cf it ρ with
    | some items => forGo (put1 i) (ex b) items ρ
    | none => none
  | .forE2 i j it b, ρ => match evI cf it ρ with
    | some items => forGo (put2 i j) (ex b) items ρ
    | none => none
  | .forN is it b, ρ => match evI cf it ρ with
    | some items => forGo (putN is) (ex b) items ρ
    | none => none
  | .ret x, ρ => (ev1 cf x ρ).map fun d => (ρ, .ret d)
  | .brk, ρ => some (ρ, .brk)
  | .cont, ρ => some (ρ, .cont)
  | .assert c, ρ => match evT cf c ρ with
    | some true => some (ρ, .next)
    | _ => none
  | .try_ b, ρ => ex b ρ
  | .sem f, ρ => f cf ρ
  | .dNew i, ρ => if dSlot i && noApp i ρ then some (ρ.set i (.own []), .next) else none
  | .dSet i k x, ρ => match dicOwn ρ i, keyO (ev1 cf k ρ), ev1 cf x ρ with
    | some l, some q, some d => if (dictGet l q).isNone ∧ l.length < lim then some (ρ.set i (.own (l ++ [.tup [.str q, d]])), .next) else none
    | _, _, _ => none
  | .dFz i, ρ => match dicOwn ρ i with
    | some l => some (ρ.set i (.fdic l), .next)
    | none => none
theorem zam {ρ : List Slot} {d} : ev cf (.const d) ρ = (some [.val d]) := rfl
theorem zaX {ρ : List Slot} {i} : ev cf (.var i) ρ = (match ρ[i]? with
    | some (.val d) => some [.val d]
    | some (.own l) => if dSlot i then none else some [.bor l]
    | _ => none) := rfl
theorem zby {ρ : List Slot} {o a} : ev cf (.op o a) ρ = (match ev cf a ρ with
    | some rs => (opF o (rs.map R.ds)).map fun r => [r]
    | none => none) := rfl
theorem zbd {ρ : List Slot} : ev cf .nil ρ = (some []) := rfl
theorem zaA {ρ : List Slot} {a r} : ev cf (.cons a r) ρ = (match ev cf a ρ with
    | some [x] => (ev cf r ρ).map fun xs => x :: xs
    | _ => none) := rfl
theorem zaI {ρ : List Slot} {a} : ev cf (.star a) ρ = (match ev cf a ρ with
    | some [x] => (match x.fz with
      | some (.list l) => some (l.map .val)
      | some (.tup l) => some (l.map .val)
      | _ => none)
    | _ => none) := rfl
theorem zaZ {ρ : List Slot} {a b} : ev cf (.and a b) ρ = (match ev cf a ρ with
    | some [x] => (match x.ds.truth with
      | some true => ev cf b ρ
      | some false => some [x]
      | none => none)
    | _ => none) := rfl
theorem zbl {ρ : List Slot} {a b} : ev cf (.or a b) ρ = (match ev cf a ρ with
    | some [x] => (match x.ds.truth with
      | some false => ev cf b ρ
      | some true => some [x]
      | none => none)
    | _ => none) := rfl
theorem zaY {ρ : List Slot} {a} : ev cf (.not a) ρ = (match ev cf a ρ with
    | some [x] => x.ds.truth.map fun b => [.val (.bool (!b))]
    | _ => none) := rfl
theorem zaW {ρ : List Slot} {c t e} : ev cf (.ite c t e) ρ = (match truthR (ev cf c ρ) with
    | some true => ev cf t ρ
    | some false => ev cf e ρ
    | none => none) := rfl
theorem zaE {ρ : List Slot} {f a} : ev cf (.call f a) ρ = (match ev cf a ρ with
    | some rs => (match fzAll rs with
      | some ds => (cf f ds).map fun d => [.val d]
      | none => none)
    | none => none) := rfl
theorem zbc {ρ : List Slot} {a} : ev cf (.tup a) ρ = (match ev cf a ρ with
    | some rs => (match fzAll rs with
      | some ds => if ds.length ≤ lim then some [.val (.tup ds)] else none
      | none => none)
    | none => none) := rfl
theorem zaP {ρ : List Slot} {a} : ev cf (.list a) ρ = (match ev cf a ρ with
    | some rs => (match fzAll rs with
      | some ds => if ds.length ≤ lim then some [.own ds] else none
      | none => none)
    | none => none) := rfl
theorem zaK {ρ : List Slot} {i it c e} : ev cf (.comp i it c e) ρ = (match ev cf it ρ with
    | some [.val (.list items)] => (compGo (fun d => turnD (ev cf c (ρ.set i (.val d))) (ev cf e (ρ.set i (.val d)))) items).map fun l => [.own l]
    | _ => none) := rfl
theorem zaD {ρ : List Slot} {i j it c e} : ev cf (.comp2 i j it c e) ρ = (match ev cf it ρ with
    | some [.val (.list items)] => (compGo (fun d => match d with
        | .tup [a, b] => turnD (ev cf c ((ρ.set i (.val a)).set j (.val b))) (ev cf e ((ρ.set i (.val a)).set j (.val b)))
        | _ => none) items).map fun l => [.own l]
    | _ => none) := rfl
theorem zav {ρ : List Slot} {i it j jt e} : ev cf (.comp3 i it j jt e) ρ = (match itsR (ev cf it ρ) with
    | some items => (match flatGo (fun d => match itsR (ev cf jt (ρ.set i (.val d))) with
        | some its => compGo (fun d' => turnD (some [.val (.bool true)]) (ev cf e ((ρ.set i (.val d)).set j (.val d')))) its
        | none => none) items with
      | some l => if l.length ≤ lim then some [.own l] else none
      | none => none)
    | none => none) := rfl
theorem zaT {ρ : List Slot} {f a} : ev cf (.mapF f a) ρ = (match ev cf a ρ with
    | some [x] => (match x.ds with
      | .list items => (allSome (items.map fun d => cf f [d])).map fun l => [.val (.tup l)]
      | .tup items => (allSome (items.map fun d => cf f [d])).map fun l => [.val (.tup l)]
      | _ => none)
    | _ => none) := rfl
theorem zaJ {ρ : List Slot} {a} : ev cf (.seqI a) ρ = (match ev cf a ρ with
    | some [x] => (match x.fz with
      | some d => (itemsOf d).map fun l => [.val (.list l)]
      | none => none)
    | _ => none) := rfl
theorem zal {ρ : List Slot} {a} : ev cf (.rangeI a) ρ = (match ev cf a ρ with
    | some rs => (opRange (rs.map R.ds)).map fun l => [.val (.list l)]
    | none => none) := rfl
theorem zaC {ρ : List Slot} {a} : ev cf (.enumI a) ρ = (match ev cf a ρ with
    | some [x] => (match x.fz with
      | some d => (enumOf d).map fun l => [.val (.list (enumL 0 l))]
      | none => none)
    | _ => none) := rfl
theorem zaS {ρ : List Slot} {i it e} : ev cf (.setI i it e) ρ = (match ev cf it ρ with
    | some [.val (.list items)] => (match compGo (fun d => turnD (some [.val (.bool true)]) (ev cf e (ρ.set i (.val d)))) items with
      | some (.bool b :: r) => if r.all (fun d => match d with | .bool b' => b' == b | _ => false) then some [.val (.bool b)] else none
      | _ => none)
    | _ => none) := rfl
theorem zg9 {ρ : List Slot} : ex cf .skip ρ = (some (ρ, .next)) := rfl
theorem zgr {ρ : List Slot} {a b} : ex cf (.seq a b) ρ = (match ex cf a ρ with
    | some (ρ', .next) => ex cf b ρ'
    | some (ρ', o) => some (ρ', o)
    | none => none) := rfl
theorem exq_fz {ρ : List Slot} {i} : ex cf (.fz i) ρ = (match ownAt ρ i with
    | some l => some (ρ.set i (.val (.list l)), .next)
    | none => some (ρ, .next)) := rfl
theorem zdg {ρ : List Slot} {i x} : ex cf (.assign i x) ρ = ((ev1 cf x ρ).map fun d => (ρ.set i (.val d), .next)) := rfl
theorem zcP {ρ : List Slot} {i x} : ex cf (.assignO i x) ρ = (if noApp i ρ then (match ev cf x ρ with
    | some [.own l] => if dSlot i then none else some (ρ.set i (.own l), .next)
    | some [.val d] => some (ρ.set i (.val d), .next)
    | _ => none) else none) := rfl
theorem zcQ {ρ : List Slot} {i j x} : ex cf (.assign2 i j x) ρ = (match ev1 cf x ρ with
    | some (.tup [a, b]) => some ((ρ.set i (.val a)).set j (.val b), .next)
    | _ => none) := rfl
theorem zfT {ρ : List Slot} {i j} : ex cf (.alias i j) ρ = (match ownAt ρ j with
    | some _ => some (ρ.set i (.app j), .next)
    | none => none) := rfl
theorem zeE {ρ : List Slot} {i x} : ex cf (.append i x) ρ = (match ev1 cf x ρ, ownAt ρ i with
    | some d, some l => if l.length < lim then some (ρ.set i (.own (l ++ [d])), .next) else none
    | _, _ => none) := rfl
theorem zc4 {ρ : List Slot} {i j x} : ex cf (.appendVia i j x) ρ = (match ρ[i]? with
    | some (.app j') => if j' = j then (match ev1 cf x ρ, ownAt ρ j with
      | some d, some l => if l.length < lim then some (ρ.set j (.own (l ++ [d])), .next) else none
      | _, _ => none) else none
    | _ => none) := rfl
theorem ziV {ρ : List Slot} {i x} : ex cf (.aug i x) ρ = (match ρ[i]?, ev1 cf x ρ with
    | some (.val (.str a)), some (.str b) => if a.length + b.length ≤ lim then some (ρ.set i (.val (.str (a ++ b))), .next) else none
    | _, _ => none) := rfl
theorem zgs {ρ : List Slot} {c a b} : ex cf (.ite c a b) ρ = (match evT cf c ρ with
    | some true => ex cf a ρ
    | some false => ex cf b ρ
    | none => none) := rfl
theorem zfS {ρ : List Slot} {c b} : ex cf (.while c b) ρ = (whileGo (evT cf c) (ex cf b) wf ρ) := rfl
theorem zha {ρ : List Slot} {i it b} : ex cf (.forE i it b) ρ = (match evI cf it ρ with
    | some items => forGo (put1 i) (ex cf b) items ρ
    | none => none) := rfl
theorem ziU {ρ : List Slot} {x} : ex cf (.ret x) ρ = ((ev1 cf x ρ).map fun d => (ρ, .ret d)) := rfl
theorem exq_brk {ρ : List Slot} : ex cf .brk ρ = (some (ρ, .brk)) := rfl
theorem zeD {ρ : List Slot} {c} : ex cf (.assert c) ρ = (match evT cf c ρ with
    | some true => some (ρ, .next)
    | _ => none) := rfl
theorem zg8 {ρ : List Slot} {b} : ex cf (.try_ b) ρ = (ex cf b ρ) := rfl
theorem ziT {ρ : List Slot} {f} : ex cf (.sem f) ρ = f cf ρ := rfl
end
set_option genInjectivity false in
structure Fn where
  np : Nat
  va : Bool
  ns : Nat
  body : S
noncomputable def bindD (f : Fn) (args : List D) : Option (List Slot) :=
  if f.va then (if f.np ≤ args.length ∧ args.length ≤ lim then some (((args.take f.np).map .val ++ [.val (.tup (args.drop f.np))]) ++ List.replicate (f.ns - f.np - 1) .unset) else none)
  else if args.length = f.np then some (args.map .val ++ List.replicate (f.ns - f.np) .unset) else none
noncomputable def callF (fns : Nat → Option Fn) : Nat → Nat → List D → Option D
  | 0, _, _ => none
  | n + 1, f, args => match fns f with
    | none => none
    | some fn => match bindD fn args with
      | none => none
      | some ρ => match ex (callF fns n) fn.body ρ with
        | some (_, .ret d) => some d
        | some (_, .next) => some .none
        | _ => none
end Mine
end
section
open PySem PySem.Calls PyProof.Rows
namespace Mine
set_option genInjectivity false in
structure Cx where
  prog : Program
  w : World
  h0 : Heap
  X : Addr → Prop
  XI : Heap → Prop
  T : Nat → Addr
  mg : Str → Option Value
  mb : Str → Option Value
  fa : Nat → Addr
section
variable (T : NAd) (F : AP) (h : Heap)
mutual
inductive Rep : Value → D → Prop
  | none : Rep .none .none
  | bool (b : Bool) : Rep (.bool b) (.bool b)
  | int (i : Int) (t : Tok) : Rep (.int i t) (.int i)
  | str {l : List Nat} (t : Tok) : (∀ c ∈ l, c < 0x110000) → l.length ≤ lim → Rep (.str ⟨l.toArray⟩ t) (.str l)
  | ty (n : String) : Rep (.type n) (.ty n)
  | list {a : Addr} {vs : List Value} {n : Nat} {ds : List D} : F a → h.get? a = some (lobj vs.toArray n) → vs.length ≤ lim → RepL vs ds → Rep (.ref a) (.list ds)
  | tup {a : Addr} {vs : List Value} {n : Nat} {ds : List D} : F a → h.get? a = some (tobj vs.toArray n) → vs.length ≤ lim → RepL vs ds → Rep (.ref a) (.tup ds)
  | tok {k : Nat} : (k < 2 → F (T k) ∧ ∃ n t, h.get? (T k) = some (lobj #[.str ⟨(tokC k).toArray⟩ t] n)) → Rep (.ref (T k)) (.tok k)
inductive RepL : List Value → List D → Prop
  | nil : RepL [] []
  | cons {v : Value} {vs : List Value} {d : D} {ds : List D} : Rep v d → RepL vs ds → RepL (v :: vs) (d :: ds)
end
end
section
variable {T : NAd} {F F' : AP} {h h' : Heap}
theorem Rep.mono (hF : ∀ a, F a → F' a) (hk : ∀ a o, F a → h.get? a = some o → h'.get? a = some o) {v : Value} {d : D} (r : Rep T F h v d) : Rep T F' h' v d :=
  Rep.rec (motive_1 := fun v d _ => Rep T F' h' v d) (motive_2 := fun vs ds _ => RepL T F' h' vs ds) .none .bool .int (fun t q z => .str t q z) .ty (fun f g z _ i => .list (hF _ f) (hk _ _ f g) z i) (fun f g z _ i => .tup (hF _ f) (hk _ _ f g) z i) (fun f => .tok fun h2 => let ⟨f, n, t, g⟩ := f h2; ⟨hF _ f, n, t, hk _ _ f g⟩) .nil (fun _ _ a b => .cons a b) r
theorem RepL.mono (hF : ∀ a, F a → F' a) (hk : ∀ a o, F a → h.get? a = some o → h'.get? a = some o) {vs : List Value} {ds : List D} (r : RepL T F h vs ds) : RepL T F' h' vs ds :=
  RepL.rec (motive_1 := fun v d _ => Rep T F' h' v d) (motive_2 := fun vs ds _ => RepL T F' h' vs ds) .none .bool .int (fun t q z => .str t q z) .ty (fun f g z _ i => .list (hF _ f) (hk _ _ f g) z i) (fun f g z _ i => .tup (hF _ f) (hk _ _ f g) z i) (fun f => .tok fun h2 => let ⟨f, n, t, g⟩ := f h2; ⟨hF _ f, n, t, hk _ _ f g⟩) .nil (fun _ _ a b => .cons a b) r
theorem RepL.ind {motive : List Value → List D → Prop} (hn : motive [] []) (hc : ∀ {v vs d ds}, Rep T F h v d → RepL T F h vs ds → motive vs ds → motive (v :: vs) (d :: ds)) {vs : List Value} {ds : List D} (q : RepL T F h vs ds) : motive vs ds :=
  RepL.rec (motive_1 := fun _ _ _ => True) (motive_2 := fun vs ds _ => motive vs ds) trivial (fun _ => trivial) (fun _ _ => trivial) (fun _ _ _ => trivial) (fun _ => trivial) (fun _ _ _ _ _ => trivial) (fun _ _ _ _ _ => trivial) (fun _ => trivial) hn (fun a r _ i => hc a r i) q
theorem RepL.length {vs : List Value} {ds : List D} (q : RepL T F h vs ds) : vs.length = ds.length :=
  q.ind (motive := fun vs ds => vs.length = ds.length) rfl fun _ _ i => congrArg Nat.succ i
theorem RepL.append {vs ws : List Value} {ds es : List D} (q : RepL T F h vs ds) (k : RepL T F h ws es) : RepL T F h (vs ++ ws) (ds ++ es) :=
  q.ind (motive := fun vs ds => RepL T F h (vs ++ ws) (ds ++ es)) k fun a _ i => .cons a i
theorem RepL.get {vs : List Value} {ds : List D} (q : RepL T F h vs ds) : ∀ {k : Nat} {d : D}, ds[k]? = some d → ∃ v, vs[k]? = some v ∧ Rep T F h v d :=
  q.ind (motive := fun vs ds => ∀ {k : Nat} {d : D}, ds[k]? = some d → ∃ v, vs[k]? = some v ∧ Rep T F h v d) (fun e => nomatch e) fun a _ i => by
    intro k d e
    cases k with
    | zero => cases e; exact ⟨_, rfl, a⟩
    | succ k => exact i (k := k) e
theorem RepL.getV {vs : List Value} {ds : List D} (r : RepL T F h vs ds) {k : Nat} {v : Value} (e : vs[k]? = some v) : ∃ d, ds[k]? = some d ∧ Rep T F h v d := by
  have hk : k < vs.length := by
    rcases Nat.lt_or_ge k vs.length with q | q
    · exact q
    · rw [List.getElem?_eq_none q] at e; cases e
  have hk' : k < ds.length := r.length ▸ hk
  obtain ⟨v', e', rv⟩ := r.get (List.getElem?_eq_getElem hk')
  rw [e] at e'; cases e'
  exact ⟨_, List.getElem?_eq_getElem hk', rv⟩
theorem RepL.reverse {vs : List Value} {ds : List D} (q : RepL T F h vs ds) : RepL T F h vs.reverse ds.reverse :=
  q.ind (motive := fun vs ds => RepL T F h vs.reverse ds.reverse) .nil fun a _ i => by rw [List.reverse_cons, List.reverse_cons]; exact i.append (.cons a .nil)
theorem RepL.pickAt (is : List Nat) {vs : List Value} {ds : List D} (r : RepL T F h vs ds) : RepL T F h (is.filterMap (vs[·]?)) (is.filterMap (ds[·]?)) := by
  induction is with
  | nil => exact .nil
  | cons k is ih =>
    rcases Nat.lt_or_ge k ds.length with q | q
    · obtain ⟨v, e, rv⟩ := r.get (List.getElem?_eq_getElem q)
      rw [List.filterMap_cons_some e, List.filterMap_cons_some (List.getElem?_eq_getElem q)]
      exact .cons rv ih
    · rw [List.filterMap_cons_none (by simpa using r.length ▸ q), List.filterMap_cons_none (by simpa using q)]
      exact ih
theorem RepL.rep (n : Nat) {vs : List Value} {ds : List D} (r : RepL T F h vs ds) : RepL T F h (List.replicate n vs).flatten (List.replicate n ds).flatten := by
  induction n with
  | zero => simp; exact .nil
  | succ n ih => simp only [List.replicate_succ, List.flatten_cons]; exact r.append ih
theorem Rep.reads {v : Value} {d : D} {n : Nat} (r : Rep T F h v d) (q : d.ok n = true) : ∃ as, Reads h v d.toPy as := by
  have nx : ∀ {d : D} {n : Nat}, d.ok n = true → ∃ k, n = k + 1 := fun {d n} q => by
    cases n with
    | zero => unfold D.ok at q; cases q
    | succ k => exact ⟨k, rfl⟩
  refine Rep.rec (motive_1 := fun v d _ => ∀ n, d.ok n = true → ∃ as, Reads h v d.toPy as) (motive_2 := fun vs ds _ => ∀ n, D.oks n ds = true → ∃ as, ReadsAll h vs (D.toPys ds) as) (fun _ _ => ⟨[], .none⟩) (fun b _ _ => ⟨[], .bool b⟩) (fun i t _ _ => ⟨[], .int i t⟩) (fun t _ _ _ _ => ⟨[], .str _ t⟩) (fun m n q => ?_) (fun f g _ _ ih n q => ?_) (fun f g _ _ ih n q => ?_) (fun f n q => ?_) (fun _ _ => ⟨[], .nil⟩) (fun _ _ i1 i2 n q => ?_) r n q
  · obtain ⟨k, rfl⟩ := nx q; cases q
  · obtain ⟨k, rfl⟩ := nx q
    obtain ⟨as, x⟩ := ih k q
    exact ⟨_, Reads.list g rfl rfl (by rw [List.toList_toArray]; exact x)⟩
  · obtain ⟨k, rfl⟩ := nx q
    obtain ⟨as, x⟩ := ih k q
    exact ⟨_, Reads.tuple g rfl rfl (by rw [List.toList_toArray]; exact x)⟩
  · obtain ⟨j, rfl⟩ := nx q
    obtain ⟨_, _, t, g⟩ := f (of_decide_eq_true (Bool.and_eq_true_iff.mp q).2)
    exact ⟨_, Reads.list g rfl rfl (.cons (.str _ t) .nil)⟩
  · have q' := Bool.and_eq_true_iff.mp q
    obtain ⟨as, x⟩ := i1 n q'.1
    obtain ⟨bs, y⟩ := i2 n q'.2
    exact ⟨as ++ bs, .cons x y⟩
theorem RepL.reads {vs : List Value} {ds : List D} {n : Nat} (r : RepL T F h vs ds) (q : D.oks n ds = true) : ∃ as, ReadsAll h vs (D.toPys ds) as :=
  r.ind (motive := fun vs ds => D.oks n ds = true → ∃ as, ReadsAll h vs (D.toPys ds) as) (fun _ => ⟨[], .nil⟩) (fun a _ i q => by
    have q' := Bool.and_eq_true_iff.mp q
    obtain ⟨as, x⟩ := a.reads q'.1
    obtain ⟨bs, y⟩ := i q'.2
    exact ⟨as ++ bs, .cons x y⟩) q
end
section
variable {T : NAd} {F F' : AP} {h h' : Heap}
theorem zgF {l : List Nat} (q : ∀ c ∈ l, c < 0x110000) : PyData.strOk ⟨l.toArray⟩ = true := by
  unfold PyData.strOk
  simpa [List.all_eq_true] using q
theorem Rep.lay {v : Value} {d : D} {n : Nat} (r : Rep T F h v d) (q : d.ok n = true) : d.toPy.canLay0 = true ∧ d.toPy.depth ≤ n := by
  have nx : ∀ {d : D} {n : Nat}, d.ok n = true → ∃ k, n = k + 1 := fun {d n} q => by
    cases n with
    | zero => unfold D.ok at q; cases q
    | succ k => exact ⟨k, rfl⟩
  refine Rep.rec (motive_1 := fun v d _ => ∀ n, d.ok n = true → d.toPy.canLay0 = true ∧ d.toPy.depth ≤ n) (motive_2 := fun vs ds _ => ∀ n, D.oks n ds = true → PyData.canLayAll0 (D.toPys ds) = true ∧ PyData.depthAll (D.toPys ds) ≤ n) (fun _ _ => ⟨rfl, Nat.zero_le _⟩) (fun _ _ _ => ⟨rfl, Nat.zero_le _⟩) (fun _ _ _ _ => ⟨rfl, Nat.zero_le _⟩) (fun t p _ _ _ => ⟨zgF p, Nat.zero_le _⟩) (fun m n q => ?_) (fun f g _ _ ih n q => ?_) (fun f g _ _ ih n q => ?_) (fun {k} f n q => ?_) (fun _ _ => ⟨rfl, Nat.zero_le _⟩) (fun _ _ i1 i2 n q => ?_) r n q
  · obtain ⟨k, rfl⟩ := nx q; cases q
  · obtain ⟨k, rfl⟩ := nx q
    have := ih k q
    simp only [D.toPy, PyData.canLay0, PyData.depth]
    exact ⟨this.1, by omega⟩
  · obtain ⟨k, rfl⟩ := nx q
    have := ih k q
    simp only [D.toPy, PyData.canLay0, PyData.depth]
    exact ⟨this.1, by omega⟩
  · obtain ⟨j, rfl⟩ := nx q
    have e : PyData.strOk ⟨(tokC k).toArray⟩ = true := zgF (by cases k <;> simp [tokC])
    have hj : 0 < j := of_decide_eq_true (Bool.and_eq_true_iff.mp q).1
    simp only [D.toPy, PyData.canLay0, PyData.canLayAll0, PyData.depth, PyData.depthAll, e, Bool.and_self, true_and]; omega
  · have q' := Bool.and_eq_true_iff.mp q
    have x := i1 n q'.1
    have y := i2 n q'.2
    simp only [D.toPys, PyData.canLayAll0, PyData.depthAll, x.1, y.1]
    exact ⟨rfl, by omega⟩
theorem RepL.lay {vs : List Value} {ds : List D} {n : Nat} (r : RepL T F h vs ds) (q : D.oks n ds = true) : PyData.canLayAll0 (D.toPys ds) = true ∧ PyData.depthAll (D.toPys ds) ≤ n :=
  r.ind (motive := fun vs ds => D.oks n ds = true → PyData.canLayAll0 (D.toPys ds) = true ∧ PyData.depthAll (D.toPys ds) ≤ n) (fun _ => ⟨rfl, Nat.zero_le _⟩) (fun a _ i q => by
    have q' := Bool.and_eq_true_iff.mp q
    have x := a.lay q'.1
    have y := i q'.2
    simp only [D.toPys, PyData.canLayAll0, PyData.depthAll, x.1, y.1]
    exact ⟨rfl, Nat.max_le.mpr ⟨x.2, y.2⟩⟩) q
theorem Rep.shaped {v : Value} {d : D} {n : Nat} (r : Rep T F h v d) (q : d.ok n = true) (hn : n ≤ 60) : PySem.SeqAt.shaped d.toPy = true := by
  have l := r.lay q
  unfold PySem.SeqAt.shaped
  rw [l.1, Bool.true_and]; exact decide_eq_true (by omega)
end
noncomputable def GensBare (a : Array GenState) : Prop := ∀ g ∈ a, g.bare = true
set_option genInjectivity false in
structure XCx extends Cx where
  XF : (Addr → Prop) → Heap → Prop
  cok : (Nat → List D → Option D) → Prop := fun _ => True
set_option genInjectivity false in
structure Wd (cx : XCx) (F : AP) (s : Shared) : Prop where
  base : ∀ a o, cx.h0.get? a = some o → ¬ cx.X a → s.heap.get? a = some o
  xi : cx.XF F s.heap
  gens : GensBare s.gens
  f0 : ∀ a o, cx.h0.get? a = some o → ¬ cx.X a → F a
  lt : ∀ a, F a → ∃ o, s.heap.get? a = some o
  nx : ∀ a, F a → ¬ cx.X a
  xex : ∀ a, cx.X a → ∃ o, s.heap.get? a = some o
set_option genInjectivity false in
structure CxOk (cx : XCx) : Prop where
  xi : ∀ F F' h h', cx.XF F h → (∀ a, F a → F' a) → (∀ a o, F a ∨ cx.X a → h.get? a = some o → h'.get? a = some o) → cx.XF F' h'
  glob : cx.h0.Ns mainGlobals cx.mg
  gx : ¬ cx.X mainGlobals
  blt : cx.h0.Ns builtinsNs cx.mb
  bx : ¬ cx.X builtinsNs
  bmb : ∀ x : Str, x ≠ "__name__" → cx.mb x = bootBuiltins x
  lim : cx.h0.NoLimit
  limx : ¬ cx.X cStatics
  seer : ∀ h : Heap, (∀ a o, cx.h0.get? a = some o → ¬ cx.X a → h.get? a = some o) → h.NoSeer
  tree : cx.prog.given.tree = none
  nb : ∃ mc, cx.h0.Ns cStatics mc ∧ mc sharingNotToldKey = none
  tinj : ∀ i j, cx.T i = cx.T j → i = j
set_option genInjectivity false in
structure Step (cx : XCx) (F : AP) (s : Shared) (F' : AP) (s' : Shared) : Prop where
  sub : ∀ a, F a → F' a
  new : ∀ a, F' a → F a ∨ s.heap.get? a = none
  keep : ∀ a o, s.heap.get? a = some o → ¬ cx.X a → s'.heap.get? a = some o
  os : s'.os = s.os
  wd : Wd cx F' s'
theorem zbe (h : Heap) : h.get? h.objs.size = none := by
  cases e : h.get? h.objs.size with
  | none => rfl
  | some o => exact absurd (Heap.lt_size e) (Nat.lt_irrefl _)
section
variable {cx : XCx} {F F' F'' : AP} {s s' s'' : Shared}
theorem Step.refl (w : Wd cx F s) : Step cx F s F s := ⟨fun _ h => h, fun _ h => .inl h, fun _ _ e _ => e, rfl, w⟩
theorem Step.fresh (x : Step cx F s F' s') {a : Addr} (nx : ¬ cx.X a) (h : s'.heap.get? a = none) : s.heap.get? a = none := by
  cases e : s.heap.get? a with
  | none => rfl
  | some o => rw [x.keep a o e nx] at h; cases h
theorem Step.trans (x : Step cx F s F' s') (y : Step cx F' s' F'' s'') : Step cx F s F'' s'' :=
  ⟨fun a h => y.sub a (x.sub a h), fun a h => by
    rcases y.new a h with q | q
    · exact x.new a q
    · exact .inr (x.fresh (y.wd.nx a h) q), fun a o e nx => y.keep a o (x.keep a o e nx) nx, y.os.trans x.os, y.wd⟩
theorem Wd.toks (w : Wd cx F s) (k : Nat) : Wd cx F { s with toks := k } := ⟨w.base, w.xi, w.gens, w.f0, w.lt, w.nx, w.xex⟩
theorem Step.toks (x : Step cx F s F' s') (k : Nat) : Step cx F s F' { s' with toks := k } := ⟨x.sub, x.new, x.keep, x.os, x.wd.toks k⟩
theorem Step.rep (x : Step cx F s F' s') (w : Wd cx F s) {v : Value} {d : D} (r : Rep cx.T F s.heap v d) : Rep cx.T F' s'.heap v d := r.mono x.sub fun a o f e => x.keep a o e (w.nx a f)
theorem Step.repL (x : Step cx F s F' s') (w : Wd cx F s) {v : List Value} {d : List D} (r : RepL cx.T F s.heap v d) : RepL cx.T F' s'.heap v d := r.mono x.sub fun a o f e => x.keep a o e (w.nx a f)
theorem Step.grown (ok : CxOk cx) (w : Wd cx F s) {h' : Heap} (k : Nat) (hk : ∀ a o, s.heap.get? a = some o → h'.get? a = some o) : Step cx F s F { s with heap := h', toks := k } :=
  ⟨fun _ h => h, fun _ h => .inl h, fun a o e _ => hk a o e, rfl, ⟨fun a o e nx => hk a o (w.base a o e nx), ok.xi _ _ _ _ w.xi (fun _ h => h) (fun a o _ e => hk a o e), w.gens, w.f0, fun a f => let ⟨o, e⟩ := w.lt a f; ⟨o, hk a o e⟩, w.nx, fun a f => let ⟨o, e⟩ := w.xex a f; ⟨o, hk a o e⟩⟩⟩
theorem Step.push (ok : CxOk cx) (w : Wd cx F s) (o : Obj) (k : Nat) : Step cx F s F { s with heap := s.heap.push o, toks := k } :=
  Step.grown ok w k fun _ _ e => Heap.get?_push_of_some o e
theorem Wd.newNotX (w : Wd cx F s) {a : Addr} (h : s.heap.get? a = none) : ¬ cx.X a := fun x => by
  obtain ⟨o, e⟩ := w.xex a x
  rw [e] at h; cases h
theorem Wd.newNotF (w : Wd cx F s) {a : Addr} (h : s.heap.get? a = none) : ¬ F a := fun x => by
  obtain ⟨o, e⟩ := w.lt a x
  rw [e] at h; cases h
theorem Step.freeze (ok : CxOk cx) (w : Wd cx F s) (x : Step cx F s F' s') {a : Addr} {o : Obj} (h1 : s.heap.get? a = none) (h2 : s'.heap.get? a = some o) : Step cx F s (fun b => F' b ∨ b = a) s' :=
  ⟨fun b h => .inl (x.sub b h), fun b h => h.elim (x.new b) fun e => .inr (e ▸ h1), x.keep, x.os,
    ⟨x.wd.base, ok.xi _ _ _ _ x.wd.xi (fun _ h => .inl h) (fun _ _ _ e => e), x.wd.gens, fun b o h nx => .inl (x.wd.f0 b o h nx), fun b h => h.elim (x.wd.lt b) fun e => e ▸ ⟨o, h2⟩,
      fun b h => h.elim (x.wd.nx b) fun e => e ▸ w.newNotX h1, x.wd.xex⟩⟩
theorem Step.notF (x : Step cx F s F' s') {a : Addr} {o : Obj} (h : ¬ F a) (hl : s.heap.get? a = some o) : ¬ F' a := fun h' => by
  rcases x.new a h' with q | q
  · exact h q
  · rw [hl] at q; cases q
theorem Wd.glob (ok : CxOk cx) (w : Wd cx F s) : s.heap.Ns mainGlobals cx.mg := ok.glob.at' fun o e => w.base _ o e ok.gx
theorem Wd.blt (ok : CxOk cx) (w : Wd cx F s) : s.heap.Ns builtinsNs cx.mb := ok.blt.at' fun o e => w.base _ o e ok.bx
theorem Wd.lim (ok : CxOk cx) (w : Wd cx F s) : s.heap.NoLimit := ok.lim.at fun o e => w.base _ o e ok.limx
end
inductive BRep (cx : XCx) (F : AP) (h : Heap) : Value → D → Prop
  | rep {v : Value} {d : D} : Rep cx.T F h v d → BRep cx F h v d
  | own {a : Addr} {vs : List Value} {n : Nat} {l : List D} : ¬ cx.X a → h.get? a = some (lobj vs.toArray n) → vs.length ≤ lim → RepL cx.T F h vs l → BRep cx F h (.ref a) (.list l)
inductive BRepL (cx : XCx) (F : AP) (h : Heap) : List Value → List D → Prop
  | nil : BRepL cx F h [] []
  | cons {v : Value} {vs : List Value} {d : D} {ds : List D} : BRep cx F h v d → BRepL cx F h vs ds → BRepL cx F h (v :: vs) (d :: ds)
inductive RepR (cx : XCx) (F : AP) (lo : Heap) (h : Heap) : Value → R → Prop
  | val {v : Value} {d : D} : Rep cx.T F h v d → RepR cx F lo h v (.val d)
  | own {a : Addr} {vs : List Value} {n : Nat} {l : List D} : lo.get? a = none → ¬ F a → ¬ cx.X a → h.get? a = some (lobj vs.toArray n) → vs.length ≤ lim → RepL cx.T F h vs l → RepR cx F lo h (.ref a) (.own l)
  | bor {a : Addr} {vs : List Value} {n : Nat} {l : List D} : ¬ cx.X a → h.get? a = some (lobj vs.toArray n) → vs.length ≤ lim → RepL cx.T F h vs l → RepR cx F lo h (.ref a) (.bor l)
section
variable {cx : XCx} {F F' F'' : AP} {s s' s'' : Shared} {v : Value} {d : D} {r : R} {lo : Heap} {vs : List Value} {ds : List D}
theorem Step.brep (x : Step cx F s F' s') (w : Wd cx F s) (b : BRep cx F s.heap v d) : BRep cx F' s'.heap v d := by
  cases b with
  | rep q => exact .rep (x.rep w q)
  | own nx e z q => exact .own nx (x.keep _ _ e nx) z (x.repL w q)
theorem RepR.brep {h : Heap} (q : RepR cx F lo h v r) : BRep cx F h v r.ds := by
  cases q with
  | val q => exact .rep q
  | own _ _ nx e z q => exact .own nx e z q
  | bor nx e z q => exact .own nx e z q
theorem RepR.step (x : Step cx F s F' s') (w : Wd cx F s) (q : RepR cx F lo s.heap v r) : RepR cx F' lo s'.heap v r := by
  cases q with
  | val q => exact .val (x.rep w q)
  | own l nf nx e z q => exact .own l (x.notF nf e) nx (x.keep _ _ e nx) z (x.repL w q)
  | bor nx e z q => exact .bor nx (x.keep _ _ e nx) z (x.repL w q)
theorem RepR.low (x : Step cx F s F' s') {F'' : AP} {h : Heap} (q : RepR cx F'' s'.heap h v r) : RepR cx F'' s.heap h v r := by
  cases q with
  | val q => exact .val q
  | own l nf nx e z q => exact .own (x.fresh nx l) nf nx e z q
  | bor nx e z q => exact .bor nx e z q
theorem Step.fz (ok : CxOk cx) (w : Wd cx F s) (x : Step cx F s F' s') (q : RepR cx F' s.heap s'.heap v r) (e : r.fz = some d) :
    ∃ F'', Step cx F s F'' s' ∧ (∀ a, F' a → F'' a) ∧ Rep cx.T F'' s'.heap v d := by
  cases q with
  | val q => cases e; exact ⟨F', x, fun _ h => h, q⟩
  | own l nf nx g z q =>
    cases e
    exact ⟨_, x.freeze ok w l g, fun _ h => .inl h, .list (.inr rfl) g z (q.mono (fun _ h => .inl h) fun _ _ _ e => e)⟩
  | bor nx g z q => cases e
end
set_option genInjectivity false in
structure Bud (n : Nat) (A : Around) : Prop where
  hd : A.handled = none
  dp : A.depth + n < 890
  un : A.units + 10 * n + 200 < 9900
  fs : ∃ l, A.frames = some l
theorem Bud.lt {n k : Nat} {A : Around} (b : Bud n A) (h : k ≤ 200) : A.units + k < cLine := by have := b.un; show A.units + k < 9900; omega
set_option genInjectivity false in
structure BudE (n : Nat) (A : Around) : Prop extends Bud n A where
  sl : A.units + 10 * n + 207 < 9900
  fr : ∃ env l, A.frames = some (env :: l) ∧ env.scope.isGenerator = false ∧ env.scope.isCoroutine = false ∧ env.builtins = builtinsNs ∧ env.globals = mainGlobals
noncomputable def Post (cx : XCx) (F : AP) (s : Shared) (r : R) (Q : VP) : Prop :=
  ∀ v F' s', Step cx F s F' s' → RepR cx F' s.heap s'.heap v r → Q v s'
noncomputable def Ev (cx : XCx) (A : Around) (F : AP) (s : Shared) (t : Sem Value) (r : R) : Prop := ∀ Q E, Post cx F s r Q → wpAny (model cx.prog cx.w) A t Q E s
noncomputable def EvB (cx : XCx) (A : Around) (F : AP) (s : Shared) (t : Sem Bool) (b : Bool) : Prop := ∀ Q E, (∀ F' s', Step cx F s F' s' → Q b s') → wpAny (model cx.prog cx.w) A t Q E s
set_option genInjectivity false in
structure Sc where
  kinds : List (Str × NameKind)
  vars : List (Str × Nat)
  code : Option (Addr × PySem.Str) := none
inductive KV (T : NAd) (F : AP) (h : Heap) : List (Str × Value) → List D → Prop
  | nil : KV T F h [] []
  | cons {k : List Nat} {v : Value} {d : D} {kvs : List (Str × Value)} {l : List D} : (∀ c ∈ k, c < 0x110000) → k.length ≤ lim → Rep T F h v d → KV T F h kvs l → KV T F h ((⟨k.toArray⟩, v) :: kvs) (.tup [.str k, d] :: l)
theorem KV.mono {T : NAd} {F F' : AP} {h h' : Heap} (hF : ∀ a, F a → F' a) (hk : ∀ a o, F a → h.get? a = some o → h'.get? a = some o) {kvs : List (Str × Value)} {l : List D} (q : KV T F h kvs l) : KV T F' h' kvs l := by
  induction q with
  | nil => exact .nil
  | cons a b r _ ih => exact .cons a b (r.mono hF hk) ih
inductive SlotRep (cx : XCx) (F : AP) (h : Heap) (ad : NAd) (i : Nat) : Option Value → Slot → Prop
  | unset {ov : Option Value} : SlotRep cx F h ad i ov .unset
  | val {v : Value} {d : D} : Rep cx.T F h v d → SlotRep cx F h ad i (some v) (.val d)
  | own {vs : List Value} {n : Nat} {l : List D} : ¬ F (ad i) → ¬ cx.X (ad i) → h.get? (ad i) = some (lobj vs.toArray n) → vs.length ≤ lim → RepL cx.T F h vs l → dSlot i = false → SlotRep cx F h ad i (some (.ref (ad i))) (.own l)
  | dic {kvs : List (Str × Value)} {l : List D} : ¬ F (ad i) → ¬ cx.X (ad i) → (ad i == sysModules) = false → h.DictOf (strKind cx.prog cx.w) (ad i) kvs → KV cx.T F h kvs l → l.length ≤ lim → dSlot i = true → SlotRep cx F h ad i (some (.ref (ad i))) (.own l)
  | fdic {a : Addr} {kvs : List (Str × Value)} {l : List D} : F a → (a == sysModules) = false → h.DictOf (strKind cx.prog cx.w) a kvs → KV cx.T F h kvs l → l.length ≤ lim → SlotRep cx F h ad i (some (.ref a)) (.fdic l)
  | app {b : Addr} {o : Obj} {j : Nat} : F b → h.get? b = some o → o = appObj (ad j) → SlotRep cx F h ad i (some (.ref b)) (.app j)
noncomputable def slotAt (ρ : List Slot) (i : Nat) : Slot := ρ.getD i .unset
set_option genInjectivity false in
structure EnvOK (cx : XCx) (ε : Sc) (env : Env) (F : AP) (h : Heap) (ρ : List Slot) (ad : NAd) (m cm : SV) : Prop where
  kind : env.scope.kind = .function
  names : env.scope.names = ε.kinds
  glob : env.globals = mainGlobals
  blt : env.builtins = builtinsNs
  code : ∀ c q, ε.code = some (c, q) → env.code = .ref c ∧ env.qual = q
  lx : ¬ cx.X env.locals
  cxx : ∀ n c, env.cells.lookup n = some c → ¬ cx.X c
  ns : h.Ns env.locals m
  cells : ∀ n c, env.cells.lookup n = some c → h.IsCell c (cm n)
  vars : ∀ x i, ε.vars.lookup x = some i →
    (ε.kinds.lookup x = some .local ∧ SlotRep cx F h ad i (m x) (slotAt ρ i)) ∨
    ((ε.kinds.lookup x = some .cell ∨ ε.kinds.lookup x = some .free) ∧ (∃ c, env.cells.lookup x = some c) ∧ SlotRep cx F h ad i (cm x) (slotAt ρ i))
section
variable {cx : XCx} {F F' : AP} {s s' : Shared} {ε : Sc} {env : Env} {ρ : List Slot} {ad : NAd} {m cm : SV}
theorem SlotRep.step {i : Nat} {ov : Option Value} {sl : Slot} (x : Step cx F s F' s') (w : Wd cx F s) (q : SlotRep cx F s.heap ad i ov sl) : SlotRep cx F' s'.heap ad i ov sl := by
  cases q with
  | unset => exact .unset
  | val q => exact .val (x.rep w q)
  | own nf nx g z q hd => exact .own (x.notF nf g) nx (x.keep _ _ g nx) z (x.repL w q) hd
  | dic nf nx sm g q z hd =>
    obtain ⟨o, es, ep, ho, r⟩ := g
    exact .dic (x.notF nf ho) nx sm ⟨o, es, ep, x.keep _ _ ho nx, r⟩ (q.mono x.sub fun a o f e => x.keep a o e (w.nx a f)) z hd
  | fdic f sm g q z =>
    obtain ⟨o, es, ep, ho, r⟩ := g
    exact .fdic (x.sub _ f) sm ⟨o, es, ep, x.keep _ _ ho (w.nx _ f), r⟩ (q.mono x.sub fun a o f e => x.keep a o e (w.nx a f)) z
  | app f g e => exact .app (x.sub _ f) (x.keep _ _ g (w.nx _ f)) e
theorem RepR.pushOwn (w : Wd cx F s) {vs : List Value} {l : List D} (z : vs.length ≤ lim) (q : RepL cx.T F s.heap vs l) : RepR cx F s.heap (s.heap.push (lobj vs.toArray 0)) (.ref s.heap.objs.size) (.own l) :=
  .own (n := 0) (zbe _) (w.newNotF (zbe _)) (w.newNotX (zbe _)) (Heap.get?_push_size _ rfl) z (q.mono (fun _ h => h) fun _ _ _ e => Heap.get?_push_of_some _ e)
theorem EnvOK.step (x : Step cx F s F' s') (w : Wd cx F s) (e : EnvOK cx ε env F s.heap ρ ad m cm) : EnvOK cx ε env F' s'.heap ρ ad m cm :=
  ⟨e.kind, e.names, e.glob, e.blt, e.code, e.lx, e.cxx, e.ns.at' fun o g => x.keep _ o g e.lx, fun n c hc => let ⟨o, g, d⟩ := e.cells n c hc; ⟨o, x.keep _ o g (e.cxx n c hc), d⟩,
    fun y i hy => (e.vars y i hy).imp (fun ⟨k, q⟩ => ⟨k, q.step x w⟩) fun ⟨k, c, q⟩ => ⟨k, c, q.step x w⟩⟩
end
noncomputable def FnAt (cx : XCx) (f : Nat) : Prop := ∃ o fd, cx.h0.get? (cx.fa f) = some o ∧ o.data = .func fd ∧ ¬ cx.X (cx.fa f)
set_option genInjectivity false in
structure CallOK (cx : XCx) (n : Nat) (cf : CfT) : Prop where
  cok : cx.cok cf
  call : ∀ f args d, cf f args = some d → FnAt cx f ∧ ∀ A F s vs, Bud n A → Wd cx F s → RepL cx.T F s.heap vs args → ∀ (Rs : Result → Shared → Prop), (∀ v F' s', Step cx F s F' s' → Rep cx.T F' s'.heap v d → Rs (.ok (.ret v)) s') →
    codeAny (model cx.prog cx.w) A (.call (.ref (cx.fa f)) ⟨vs, []⟩) Rs s
set_option genInjectivity false in
structure Here (cx : XCx) (ε : Sc) (n : Nat) (cf : CfT) (A : Around) (env : Env) (F : AP) (s : Shared) (ρ : List Slot) (ad : NAd) (m cm : SV) : Prop where
  ok : CxOk cx
  calls : CallOK cx n cf
  bud : BudE n A
  wd : Wd cx F s
  env : EnvOK cx ε env F s.heap ρ ad m cm
theorem Here.step {cx : XCx} {ε : Sc} {n : Nat} {cf : CfT} {A : Around} {env : Env} {F F' : AP} {s s' : Shared} {ρ : List Slot} {ad : NAd} {m cm : SV}
    (H : Here cx ε n cf A env F s ρ ad m cm) (x : Step cx F s F' s') : Here cx ε n cf A env F' s' ρ ad m cm := ⟨H.ok, H.calls, H.bud, x.wd, H.env.step x H.wd⟩
noncomputable def SoundE (cx : XCx) (ε : Sc) (e : Expr) (x : X) : Prop :=
  ∀ n cf A env F s ρ ad m cm, Here cx ε n cf A env F s ρ ad m cm → ∀ r, ev cf x ρ = some [r] → Ev cx A F s (eval e env) r
noncomputable def SoundT (cx : XCx) (ε : Sc) (e : Expr) (x : X) : Prop :=
  ∀ n cf A env F s ρ ad m cm, Here cx ε n cf A env F s ρ ad m cm → ∀ b, evT cf x ρ = some b → EvB cx A F s (isTrue e env (eval e env)) b
set_option genInjectivity false in
structure Sound (cx : XCx) (ε : Sc) (e : Expr) (x : X) : Prop where
  ev : SoundE cx ε e x
  tr : SoundT cx ε e x
section
variable {cx : XCx} {A : Around} {F F' : AP} {s s' : Shared} {t : Sem Value} {r : R}
theorem Ev.here (w : Wd cx F s) {v : Value} (q : RepR cx F s.heap s.heap v r) : Ev cx A F s (pure v) r := fun _ _ h => wpAny_pure (h v F s (Step.refl w) q)
theorem Post.after {Q : VP} (x : Step cx F s F' s') (h : Post cx F s r Q) : Post cx F' s' r Q := fun v F'' s'' y q => h v F'' s'' (x.trans y) (q.low x)
theorem Ev.bind {α : Type} {k : Value → Sem α} {Q : α → Shared → Prop} {E : VP} (h : Ev cx A F s t r)
    (g : ∀ v F' s', Step cx F s F' s' → RepR cx F' s.heap s'.heap v r → wpAny (model cx.prog cx.w) A (k v) Q E s') : wpAny (model cx.prog cx.w) A (t >>= k) Q E s :=
  wb (h _ _ g)
end
inductive EvOp (cf : CfT) (ρ : List Slot) (o : Op) (a : X) (r : R) : Prop
  | mk (rs : List R) (e : ev cf a ρ = some rs) (h : opF o (rs.map R.ds) = some r)
inductive EvCons (cf : CfT) (ρ : List Slot) (a b : X) (rs : List R) : Prop
  | mk (x : R) (xs : List R) (ea : ev cf a ρ = some [x]) (eb : ev cf b ρ = some xs) (e : rs = x :: xs)
inductive ListInv (cx : XCx) (F : AP) (h : Heap) (v : Value) (l : List D) : Prop
  | mk (a : Addr) (vs : List Value) (n : Nat) (e : v = .ref a) (nx : ¬ cx.X a) (g : h.get? a = some (lobj vs.toArray n)) (z : vs.length ≤ lim) (q : RepL cx.T F h vs l)
inductive TupInv (cx : XCx) (F : AP) (h : Heap) (v : Value) (l : List D) : Prop
  | mk (a : Addr) (vs : List Value) (n : Nat) (e : v = .ref a) (f : F a) (g : h.get? a = some (tobj vs.toArray n)) (z : vs.length ≤ lim) (q : RepL cx.T F h vs l)
inductive StrInv (v : Value) (l : List Nat) : Prop
  | mk (t : Tok) (e : v = .str ⟨l.toArray⟩ t) (p : ∀ c ∈ l, c < 0x110000) (z : l.length ≤ lim)
inductive TwoInv (cx : XCx) (F : AP) (h : Heap) (vs : List Value) (a b : D) : Prop
  | mk (x y : Value) (e : vs = [x, y]) (qa : BRep cx F h x a) (qb : BRep cx F h y b)
section
variable {cf : CfT} {ρ : List Slot}
theorem ev_op {o : Op} {a : X} {r : R} (h : ev cf (.op o a) ρ = some [r]) : EvOp cf ρ o a r := by
  replace h := (zby _).symm.trans h
  split at h
  · rename_i rs e
    obtain ⟨r', e', h'⟩ := Option.map_eq_some_iff.mp h
    cases h'
    exact ⟨rs, e, e'⟩
  · cases h
theorem zax {a b : X} {rs : List R} (h : ev cf (.cons a b) ρ = some rs) : EvCons cf ρ a b rs := by
  replace h := (zaA _).symm.trans h
  split at h
  · rename_i x e
    obtain ⟨xs, e', h'⟩ := Option.map_eq_some_iff.mp h
    exact ⟨x, xs, e, e', h'.symm⟩
  · cases h
theorem zbX {rs : List R} (h : ev cf .nil ρ = some rs) : rs = [] := by replace h := (zbd _).symm.trans h; cases h; rfl
end
noncomputable def op1 (f : Value → Sem Value) : List Value → Sem Value
  | [a] => f a
  | _ => unsupported "mine"
noncomputable def op2 (f : Value → Value → Sem Value) : List Value → Sem Value
  | [a, b] => f a b
  | _ => unsupported "mine"
noncomputable def OpOK (cx : XCx) (o : Op) (t : List Value → Sem Value) : Prop :=
  ∀ n A F s vs ds r, CxOk cx → BudE n A → Wd cx F s → BRepL cx F s.heap vs ds → opF o ds = some r → Ev cx A F s (t vs) r
theorem sz_lt {n : Nat} (h : n ≤ lim) : (n : Int) < 2 ^ 63 := by unfold lim at h; omega
theorem zba {n : Nat} (h : n ≤ lim) : n ≤ sizeLine := by rw [sizeLine_eq]; unfold lim at h; omega
section
variable {cx : XCx} {F : AP} {s : Shared} {h : Heap} {v : Value} {A : Around}
theorem zbJ {a : Addr} {vs : List Value} {n : Nat} (g : h.get? a = some (lobj vs.toArray n)) : h.IsList a vs.toArray := ⟨_, g, rfl, n, rfl⟩
theorem ze5 {a : Addr} {vs : List Value} {n : Nat} (g : h.get? a = some (tobj vs.toArray n)) : IsTup h a vs.toArray := ⟨_, g, rfl, n, rfl⟩
theorem BRep.list_inv (w : Wd cx F s) {l : List D} (b : BRep cx F s.heap v (.list l)) : ListInv cx F s.heap v l := by
  cases b with
  | rep q =>
    cases q with
    | list f g z q => exact ⟨_, _, _, rfl, w.nx _ f, g, z, q⟩
  | own nx g z q => exact ⟨_, _, _, rfl, nx, g, z, q⟩
theorem BRep.tup_inv {l : List D} (b : BRep cx F h v (.tup l)) : TupInv cx F h v l := by
  cases b with
  | rep q =>
    cases q with
    | tup f g z q => exact ⟨_, _, _, rfl, f, g, z, q⟩
theorem BRep.str_inv {l : List Nat} (b : BRep cx F h v (.str l)) : StrInv v l := by
  cases b with
  | rep q => cases q with | str t p z => exact ⟨t, rfl, p, z⟩
theorem BRep.int_inv {i : Int} (b : BRep cx F h v (.int i)) : ∃ t, v = .int i t := by
  cases b with
  | rep q => cases q with | int _ t => exact ⟨t, rfl⟩
theorem BRep.bool_inv {i : Bool} (b : BRep cx F h v (.bool i)) : v = .bool i := by
  cases b with
  | rep q => cases q with | bool _ => rfl
theorem BRep.none_inv (b : BRep cx F h v .none) : v = .none := by
  cases b with
  | rep q => cases q with | none => rfl
theorem BRep.ty_inv {n : String} (b : BRep cx F h v (.ty n)) : v = .type n := by
  cases b with
  | rep q => cases q with | ty _ => rfl
theorem BRep.tok_inv {k : Nat} (b : BRep cx F h v (.tok k)) : v = .ref (cx.T k) := by
  cases b with
  | rep q => cases q with | tok _ => rfl
theorem BRepL.two {vs : List Value} {a b : D} (q : BRepL cx F h vs [a, b]) : TwoInv cx F h vs a b := by
  cases q with
  | cons p q => cases q with | cons p' q => cases q; exact ⟨_, _, rfl, p, p'⟩
theorem BRepL.one {vs : List Value} {a : D} (q : BRepL cx F h vs [a]) : ∃ x, vs = [x] ∧ BRep cx F h x a := by
  cases q with
  | cons p q => cases q; exact ⟨_, rfl, p⟩
theorem zbN (w : Wd cx F s) {d : D} {b : Bool} (q : BRep cx F s.heap v d) (e : d.truth = some b) : EvB cx A F s (truthy v) b := by
  intro Q E hQ
  cases d with
  | none => cases e; rw [q.none_inv]; exact PyProof.Rows.truthy_none (hQ F s (Step.refl w))
  | bool b => cases e; rw [q.bool_inv]; exact wpAny_truthy_bool (hQ F s (Step.refl w))
  | int i =>
    obtain ⟨t, rfl⟩ := q.int_inv
    cases e
    refine PyProof.Rows.truthy_int ?_
    have := hQ F s (Step.refl w)
    by_cases hi : i = 0
    · subst hi; exact this
    · have e1 : (i != 0) = true := bne_iff_ne.mpr hi
      rw [e1]
      simpa [hi] using this
  | str l =>
    obtain ⟨t, rfl, p, z⟩ := q.str_inv
    cases e
    refine P.truthy_str (by have := sz_lt z; show ¬ ((l.toArray.size : Nat) : Int) ≥ 2 ^ 63; rw [List.size_toArray]; omega) ?_
    have e : (((PySem.Str.mk l.toArray).length : Int) != 0) = !l.isEmpty := by
      show (((l.toArray.size : Nat) : Int) != 0) = _
      rw [List.size_toArray]
      cases l <;> simp <;> omega
    rw [e]
    exact hQ F _ ((Step.refl w).toks _)
  | list l =>
    obtain ⟨a, vs, n, rfl, nx, g, z, ql⟩ := q.list_inv w
    cases e
    refine wpAny_truthy_list (zbJ g) (by rw [List.size_toArray]; exact sz_lt z) ?_
    have e : (!vs.toArray.isEmpty) = !l.isEmpty := by
      have := ql.length
      clear q
      cases vs <;> cases l <;> simp_all
    rw [e]
    exact hQ F _ ((Step.refl w).toks _)
  | tup l =>
    obtain ⟨a, vs, n, rfl, f, g, z, ql⟩ := q.tup_inv
    cases e
    refine PyProof.Rows.truthy_tuple (ze5 g) (by rw [List.size_toArray]; exact sz_lt z) ?_
    have e : (!vs.toArray.isEmpty) = !l.isEmpty := by
      have := ql.length
      clear q
      cases vs <;> cases l <;> simp_all
    rw [e]
    exact hQ F _ ((Step.refl w).toks _)
  | tok k => cases e
  | ty n => cases e
end
section
variable {cx : XCx} {ε : Sc}
theorem SoundT.ofE {e : Expr} {x : X} (h : SoundE cx ε e x) (hf : ∀ env, isTrue e env (eval e env) = (do let v ← eval e env; standAt e.pos; holding [v] (truthy v))) : SoundT cx ε e x := by
  intro n cf A env F s ρ ad m cm H b hb Q E hQ
  unfold evT truthR at hb
  split at hb
  · rename_i r e
    rw [hf]
    refine Ev.bind (h n cf A env F s ρ ad m cm H r e) fun v F' s' st q => ?_
    exact wb (wpAny_standAt (wpAny_holding (zbN st.wd q.brep hb _ _ fun F'' s'' st' => hQ F'' s'' (st.trans st'))))
  · cases hb
theorem Sound.ofE {e : Expr} {x : X} (h : SoundE cx ε e x) (hf : ∀ env, isTrue e env (eval e env) = (do let v ← eval e env; standAt e.pos; holding [v] (truthy v))) : Sound cx ε e x := ⟨h, SoundT.ofE h hf⟩
noncomputable def constD : Const → Option D
  | .none => some .none
  | .bool b => some (.bool b)
  | .int i => some (.int i)
  | .str x => if x.cps.toList.all (fun c => decide (c < 0x110000)) && decide (x.cps.size ≤ lim) then some (.str x.cps.toList) else none
  | _ => none
theorem zab {c : Const} {k : Nat} {pos : Pos} {d : D} (hd : constD c = some d) : Sound cx ε (.Constant c k pos) (.const d) := by
  refine Sound.ofE ?_ fun _ => rfl
  intro n cf A env F s ρ ad m cm H r hr Q E hQ
  replace hr := (zam _).symm.trans hr
  cases hr
  cases c <;> try cases hd
  · exact wpAny_pure (hQ _ F s (Step.refl H.wd) (.val .none))
  · exact wpAny_pure (hQ _ F s (Step.refl H.wd) (.val (.bool _)))
  · exact wpAny_Constant_int (hQ _ F _ ((Step.refl H.wd).toks _) (.val (.int _ _)))
  · rename_i x
    replace hd : (if (x.cps.toList.all (fun c => decide (c < 0x110000)) && decide (x.cps.size ≤ lim)) = true then some (D.str x.cps.toList) else none) = some d := hd
    split at hd
    · rename_i q
      cases hd
      simp only [Bool.and_eq_true, List.all_eq_true, decide_eq_true_eq] at q
      refine Calls.Constant_str (hQ _ F _ ((Step.refl H.wd).toks _) (.val ?_))
      exact Rep.str (l := x.cps.toList) _ q.1 (by rw [Array.length_toList]; exact q.2)
    · cases hd
theorem zdG {n cf A env F s ρ ad m cm} (H : Here cx ε n cf A env F s ρ ad m cm) {x : Str} {i : Nat} (hv : ε.vars.lookup x = some i) (hn : (x == ("__classdict__" : Str)) = false) {Q E : VP}
    (h : ∀ v, SlotRep cx F s.heap ad i (some v) (slotAt ρ i) → Q v s) (hs : slotAt ρ i ≠ .unset) : wpAny (model cx.prog cx.w) A (loadName env x) Q E s := by
  have hk : env.scope.kind = .function := H.env.kind
  have key : ∀ {ov : Option Value}, SlotRep cx F s.heap ad i ov (slotAt ρ i) → ∃ v, ov = some v ∧ SlotRep cx F s.heap ad i (some v) (slotAt ρ i) := by
    intro ov q
    generalize slotAt ρ i = sl at *
    cases q with
    | unset => exact absurd rfl hs
    | val q => exact ⟨_, rfl, .val q⟩
    | own a b c d q e => exact ⟨_, rfl, .own a b c d q e⟩
    | dic a b c d q z e => exact ⟨_, rfl, .dic a b c d q z e⟩
    | fdic a b c d e => exact ⟨_, rfl, .fdic a b c d e⟩
    | app a b c => exact ⟨_, rfl, .app a b c⟩
  rcases H.env.vars x i hv with ⟨k, q⟩ | ⟨k, ⟨c, hc⟩, q⟩
  · obtain ⟨v, e, q'⟩ := key q
    exact wpAny_loadName_local hk (by unfold Env.kindOf; rw [H.env.names]; exact k) H.env.ns e (h v q')
  · obtain ⟨v, e, q'⟩ := key q
    have hcell := H.env.cells x c hc
    rw [e] at hcell
    rcases k with k | k
    · exact wpAny_loadName_cell hk (by unfold Env.kindOf; rw [H.env.names]; exact k) hc hcell (h v q')
    · exact wpAny_loadName_free hk (by unfold Env.kindOf; rw [H.env.names]; exact k) hc hcell (h v q') hn
theorem zc0 {n cf A env F s ρ ad m cm} (H : Here cx ε n cf A env F s ρ ad m cm) {x : Str} {i : Nat} {pos : Pos} (hv : ε.vars.lookup x = some i) (hn : (x == ("__classdict__" : Str)) = false) (hd : (x == ("__debug__" : Str)) = false) {r : R} (hr : ev cf (.var i) ρ = some [r]) {Q E : VP}
    (hQ : ∀ v, RepR cx F s.heap s.heap v r → Q v s) : wpAny (model cx.prog cx.w) A (eval (.Name x pos) env) Q E s := by
  refine wpAny_Name ?_ hd
  replace hr := (zaX _).symm.trans hr
  have hr' : ∀ sl, ρ[i]? = some sl → slotAt ρ i = sl := fun sl e => by unfold slotAt; simp [List.getD, e]
  cases hs : ρ[i]? with
  | none => rw [hs] at hr; cases hr
  | some sl =>
    rw [hs] at hr
    have hsl := hr' sl hs
    refine zdG H hv hn (fun v q => ?_) (by rw [hsl]; intro e; subst e; cases hr)
    rw [hsl] at q
    cases q with
    | unset => cases hr
    | val q => cases hr; exact hQ v (.val q)
    | own nf nx g z q hd =>
      cases (if_neg (show ¬ dSlot i = true by rw [hd]; exact Bool.false_ne_true)).symm.trans hr
      exact hQ _ (.bor nx g z q)
    | dic nf nx _ g q z hd => cases (if_pos hd).symm.trans hr
    | fdic a b c d e => cases hr
    | app a b c => cases hr
theorem zh7 {x : Str} {i : Nat} {pos : Pos} (hv : ε.vars.lookup x = some i) (hn : (x == ("__classdict__" : Str)) = false) (hd : (x == ("__debug__" : Str)) = false) : Sound cx ε (.Name x pos) (.var i) :=
  Sound.ofE (fun n cf A env F s ρ ad m cm H r hr Q E hQ => zc0 H hv hn hd hr fun v q => hQ v F s (Step.refl H.wd) q) fun _ => rfl
theorem run2 {n cf A env F s ρ ad m cm} (H : Here cx ε n cf A env F s ρ ad m cm) {l r : Expr} {xl xr : X} {o : Op} {res : R} {f : Value → Value → Sem Value} (hl : SoundE cx ε l xl) (hr : SoundE cx ε r xr) (ho : OpOK cx o (op2 f))
    (he : ev cf (.op o (.cons xl (.cons xr .nil))) ρ = some [res]) {Q E : VP} (hQ : Post cx F s res Q) :
    wpAny (model cx.prog cx.w) A (eval l env) (fun a s₁ => wpAny (model cx.prog cx.w) A (eval r env) (fun b s₂ => wpAny (model cx.prog cx.w) A (f a b) Q E s₂) E s₁) E s := by
  obtain ⟨rs, h1, h2⟩ := ev_op he
  obtain ⟨ra, xs, ha, h3, rfl⟩ := zax h1
  obtain ⟨rb, ys, hb, h4, rfl⟩ := zax h3
  cases zbX h4
  refine hl n cf A env F s ρ ad m cm H ra ha _ _ fun a F' s' st qa => ?_
  refine hr n cf A env F' s' ρ ad m cm (H.step st) rb hb _ _ fun b F'' s'' st' qb => ?_
  exact ho n A F'' s'' [a, b] _ res H.ok H.bud st'.wd (.cons (st'.brep st.wd qa.brep) (.cons qb.brep .nil)) h2 _ _ (hQ.after (st.trans st'))
theorem zah {l r : Expr} {op : Operator} {pos : Pos} {xl xr : X} {o : Op} (hl : Sound cx ε l xl) (hr : Sound cx ε r xr) (ho : OpOK cx o (op2 (binaryOp op))) : Sound cx ε (.BinOp l op r pos) (.op o (.cons xl (.cons xr .nil))) := by
  refine Sound.ofE ?_ fun _ => rfl
  intro n cf A env F s ρ ad m cm H res he Q E hQ
  exact wpAny_BinOp (run2 H hl.ev hr.ev ho he hQ)
theorem zae {l r : Expr} {op : CmpOp} {pos : Pos} {xl xr : X} {o : Op} (hl : Sound cx ε l xl) (hr : Sound cx ε r xr) (ho : OpOK cx o (op2 (compareOp op))) (hm : behindInMarks op r = false) : Sound cx ε (.Compare l [op] [r] pos) (.op o (.cons xl (.cons xr .nil))) := by
  have hE : SoundE cx ε (.Compare l [op] [r] pos) (.op o (.cons xl (.cons xr .nil))) := by
    intro n cf A env F s ρ ad m cm H res he Q E hQ
    exact wpAny_Compare1 (run2 H hl.ev hr.ev ho he hQ) hm
  refine ⟨hE, ?_⟩
  intro n cf A env F s ρ ad m cm H b hb Q E hQ
  unfold evT truthR at hb
  split at hb
  · rename_i res e
    refine wpAny_isTrue_Compare1 (run2 H hl.ev hr.ev ho e fun v F' s' st q => ?_) hm
    exact zbN st.wd q.brep hb _ _ fun F'' s'' st' => hQ F'' s'' (st.trans st')
  · cases hb
theorem zb0 {e : Expr} {op : UnaryOp} {pos : Pos} {x : X} {o : Op} (h : Sound cx ε e x) (ho : OpOK cx o (op1 (unaryOp op))) (hn : op ≠ .Not) : Sound cx ε (.UnaryOp op e pos) (.op o (.cons x .nil)) := by
  refine Sound.ofE ?_ fun _ => by cases op <;> first | rfl | exact absurd rfl hn
  intro n cf A env F s ρ ad m cm H res he Q E hQ
  obtain ⟨rs, h1, h2⟩ := ev_op he
  obtain ⟨ra, xs, ha, h3, rfl⟩ := zax h1
  cases zbX h3
  show wpAny _ _ (do let v ← eval e env; standAt pos; holding [v] (unaryOp op v)) Q E s
  refine Ev.bind (h.ev n cf A env F s ρ ad m cm H ra ha) fun a F' s' st qa => ?_
  refine wb (wpAny_standAt (wpAny_holding ?_))
  exact ho n A F' s' [a] _ res H.ok H.bud st.wd (.cons qa.brep .nil) h2 _ _ (hQ.after st)
theorem zcV {e : Expr} {pos : Pos} {x : X} (h : Sound cx ε e x) : Sound cx ε (.UnaryOp .Not e pos) (.not x) := by
  constructor
  · intro n cf A env F s ρ ad m cm H res he Q E hQ
    replace he := (zaY _).symm.trans he
    split at he
    · rename_i r e1
      obtain ⟨b, hb, h2⟩ := Option.map_eq_some_iff.mp he
      cases h2
      show wpAny _ _ (do let v ← eval e env; standAt pos; holding [v] (unaryOp .Not v)) Q E s
      refine Ev.bind (h.ev n cf A env F s ρ ad m cm H r e1) fun a F' s' st qa => ?_
      refine wb (wpAny_standAt (wpAny_holding ?_))
      exact not_of (zbN st.wd qa.brep hb _ _ fun F'' s'' st' => hQ _ F'' s'' (st.trans st') (.val (.bool _)))
    · cases he
  · intro n cf A env F s ρ ad m cm H b hb Q E hQ
    unfold evT truthR at hb
    split at hb
    · rename_i res e1
      replace e1 := (zaY _).symm.trans e1
      split at e1
      · rename_i r e2
        obtain ⟨b', hb', h2⟩ := Option.map_eq_some_iff.mp e1
        cases h2
        simp only [R.ds, D.truth, Option.some.injEq] at hb
        subst hb
        show wpAny _ _ (do return !(← isTrue e env (eval e env))) Q E s
        refine wb (h.tr n cf A env F s ρ ad m cm H b' (by unfold evT truthR; rw [e2]; exact hb') _ _ fun F' s' st => ?_)
        exact wpAny_pure (hQ F' s' st)
      · cases e1
    · cases hb
theorem zcp {c t f : Expr} {pos : Pos} {xc xt xf : X} (hc : Sound cx ε c xc) (ht : Sound cx ε t xt) (hf : Sound cx ε f xf) : Sound cx ε (.IfExp c t f pos) (.ite xc xt xf) := by
  constructor
  · intro n cf A env F s ρ ad m cm H res he Q E hQ
    replace he := (zaW _).symm.trans he
    show wpAny _ _ (do if ← isTrue c env (eval c env) then eval t env else eval f env) Q E s
    split at he
    · rename_i hb
      refine wb (hc.tr n cf A env F s ρ ad m cm H true hb _ _ fun F' s' st => ?_)
      exact ht.ev n cf A env F' s' ρ ad m cm (H.step st) res he _ _ (hQ.after st)
    · rename_i hb
      refine wb (hc.tr n cf A env F s ρ ad m cm H false hb _ _ fun F' s' st => ?_)
      exact hf.ev n cf A env F' s' ρ ad m cm (H.step st) res he _ _ (hQ.after st)
    · cases he
  · intro n cf A env F s ρ ad m cm H b hb Q E hQ
    unfold evT at hb
    have he : ev cf (.ite xc xt xf) ρ = ev cf (.ite xc xt xf) ρ := rfl
    show wpAny _ _ (do if ← isTrue c env (eval c env) then isTrue t env (eval t env) else isTrue f env (eval f env)) Q E s
    rw [zaW] at hb
    split at hb
    · rename_i hb'
      refine wb (hc.tr n cf A env F s ρ ad m cm H true hb' _ _ fun F' s' st => ?_)
      exact ht.tr n cf A env F' s' ρ ad m cm (H.step st) b hb _ _ fun F'' s'' st' => hQ F'' s'' (st.trans st')
    · rename_i hb'
      refine wb (hc.tr n cf A env F s ρ ad m cm H false hb' _ _ fun F' s' st => ?_)
      exact hf.tr n cf A env F' s' ρ ad m cm (H.step st) b hb _ _ fun F'' s'' st' => hQ F'' s'' (st.trans st')
    · cases hb
inductive SoundB (cx : XCx) (ε : Sc) : BoolOp → List Expr → X → Prop
  | one {op : BoolOp} {e : Expr} {x : X} : Sound cx ε e x → SoundB cx ε op [e] x
  | and {e : Expr} {x : X} {es : List Expr} {y : X} : Sound cx ε e x → SoundB cx ε .And es y → SoundB cx ε .And (e :: es) (.and x y)
  | or {e : Expr} {x : X} {es : List Expr} {y : X} : Sound cx ε e x → SoundB cx ε .Or es y → SoundB cx ε .Or (e :: es) (.or x y)
theorem SoundB.ne {op : BoolOp} {es : List Expr} {x : X} (h : SoundB cx ε op es x) : ∃ e r, es = e :: r := by cases h <;> exact ⟨_, _, rfl⟩
theorem zd9 {pos : Pos} {op : BoolOp} {x y : Sem Value} {r : List (Sem Value)} : boolOp pos op (x :: y :: r) = (do
    let v ← x
    standAt pos
    let t ← holding [v] (truthy v)
    match op, t with
    | .And, false | .Or, true => pure v
    | _, _ => boolOp pos op (y :: r)) := rfl
theorem zjd {n cf A env} {pos : Pos} {op : BoolOp} {es : List Expr} {x : X} (h : SoundB cx ε op es x) :
    ∀ F s ρ ad m cm, Here cx ε n cf A env F s ρ ad m cm → ∀ r, ev cf x ρ = some [r] → Ev cx A F s (boolOp pos op (evalEach es env)) r := by
  induction h with
  | one h => intro F s ρ ad m cm H r hr; exact h.ev n cf A env F s ρ ad m cm H r hr
  | @and e x es y h1 h2 ih =>
    intro F s ρ ad m cm H r hr Q E hQ
    obtain ⟨e2, r2, rfl⟩ := h2.ne
    show wpAny _ _ (boolOp pos .And (eval e env :: eval e2 env :: evalEach r2 env)) Q E s
    rw [zd9]
    replace hr := (zaZ _).symm.trans hr
    split at hr
    · rename_i x1 e1
      refine Ev.bind (h1.ev n cf A env F s ρ ad m cm H x1 e1) fun v F' s' st q => ?_
      refine wb (wpAny_standAt (wb (wpAny_holding ?_)))
      split at hr
      · rename_i hb
        refine zbN st.wd q.brep hb _ _ fun F'' s'' st' => ?_
        exact ih F'' s'' ρ ad m cm ((H.step st).step st') r hr _ _ (hQ.after (st.trans st'))
      · rename_i hb
        cases hr
        refine zbN st.wd q.brep hb _ _ fun F'' s'' st' => ?_
        exact wpAny_pure (hQ v F'' s'' (st.trans st') (q.step st' st.wd))
      · cases hr
    · cases hr
  | @or e x es y h1 h2 ih =>
    intro F s ρ ad m cm H r hr Q E hQ
    obtain ⟨e2, r2, rfl⟩ := h2.ne
    show wpAny _ _ (boolOp pos .Or (eval e env :: eval e2 env :: evalEach r2 env)) Q E s
    rw [zd9]
    replace hr := (zbl _).symm.trans hr
    split at hr
    · rename_i x1 e1
      refine Ev.bind (h1.ev n cf A env F s ρ ad m cm H x1 e1) fun v F' s' st q => ?_
      refine wb (wpAny_standAt (wb (wpAny_holding ?_)))
      split at hr
      · rename_i hb
        refine zbN st.wd q.brep hb _ _ fun F'' s'' st' => ?_
        exact ih F'' s'' ρ ad m cm ((H.step st).step st') r hr _ _ (hQ.after (st.trans st'))
      · rename_i hb
        cases hr
        refine zbN st.wd q.brep hb _ _ fun F'' s'' st' => ?_
        exact wpAny_pure (hQ v F'' s'' (st.trans st') (q.step st' st.wd))
      · cases hr
    · cases hr
theorem zhV {n cf A env} {op : BoolOp} {es : List Expr} {x : X} (h : SoundB cx ε op es x) :
    ∀ F s ρ ad m cm, Here cx ε n cf A env F s ρ ad m cm → ∀ b, evT cf x ρ = some b → EvB cx A F s (allTrue op es env) b := by
  induction h with
  | @one op e x h =>
    intro F s ρ ad m cm H b hb Q E hQ
    show wpAny _ _ (do
      match op, ← isTrue e env (eval e env) with
      | .And, false => pure false
      | .Or, true => pure true
      | _, _ => allTrue op [] env) Q E s
    refine wb (h.tr n cf A env F s ρ ad m cm H b hb _ _ fun F' s' st => ?_)
    cases op <;> cases b <;> exact wpAny_pure (hQ F' s' st)
  | @and e x es y h1 h2 ih =>
    intro F s ρ ad m cm H b hb Q E hQ
    show wpAny _ _ (do
      match BoolOp.And, ← isTrue e env (eval e env) with
      | .And, false => pure false
      | .Or, true => pure true
      | _, _ => allTrue .And es env) Q E s
    unfold evT at hb
    rw [zaZ] at hb
    split at hb
    · rename_i x1 e1
      split at hb
      · rename_i hb'
        refine wb (h1.tr n cf A env F s ρ ad m cm H true (by unfold evT truthR; rw [e1]; exact hb') _ _ fun F' s' st => ?_)
        exact ih F' s' ρ ad m cm (H.step st) b hb _ _ fun F'' s'' st' => hQ F'' s'' (st.trans st')
      · rename_i hb'
        refine wb (h1.tr n cf A env F s ρ ad m cm H false (by unfold evT truthR; rw [e1]; exact hb') _ _ fun F' s' st => ?_)
        have : b = false := by
          have : some b = some false := hb.symm.trans hb'
          cases this; rfl
        subst this
        exact wpAny_pure (hQ F' s' st)
      · cases hb
    · cases hb
  | @or e x es y h1 h2 ih =>
    intro F s ρ ad m cm H b hb Q E hQ
    show wpAny _ _ (do
      match BoolOp.Or, ← isTrue e env (eval e env) with
      | .And, false => pure false
      | .Or, true => pure true
      | _, _ => allTrue .Or es env) Q E s
    unfold evT at hb
    rw [zbl] at hb
    split at hb
    · rename_i x1 e1
      split at hb
      · rename_i hb'
        refine wb (h1.tr n cf A env F s ρ ad m cm H false (by unfold evT truthR; rw [e1]; exact hb') _ _ fun F' s' st => ?_)
        exact ih F' s' ρ ad m cm (H.step st) b hb _ _ fun F'' s'' st' => hQ F'' s'' (st.trans st')
      · rename_i hb'
        refine wb (h1.tr n cf A env F s ρ ad m cm H true (by unfold evT truthR; rw [e1]; exact hb') _ _ fun F' s' st => ?_)
        have : b = true := by
          have : some b = some true := hb.symm.trans hb'
          cases this; rfl
        subst this
        exact wpAny_pure (hQ F' s' st)
      · cases hb
    · cases hb
theorem zaO {op : BoolOp} {es : List Expr} {x : X} {pos : Pos} (h : SoundB cx ε op es x) : Sound cx ε (.BoolOp op es pos) x :=
  ⟨fun _ _ _ _ F s ρ ad m cm H r hr => zjd h F s ρ ad m cm H r hr, fun _ _ _ _ F s ρ ad m cm H b hb => zhV h F s ρ ad m cm H b hb⟩
end
theorem zcb {α : Type} {p : Prop} [Decidable p] {x y : α} (h : (if p then some x else none) = some y) : p ∧ x = y := by
  by_cases q : p
  · rw [if_pos q] at h; exact ⟨q, Option.some.inj h⟩
  · rw [if_neg q] at h; cases h
theorem zcC {f : D → D → Option R} {ds : List D} {r : R} (h : two f ds = some r) : ∃ a b, ds = [a, b] ∧ f a b = some r := by
  rcases ds with _ | ⟨a, _ | ⟨b, _ | ⟨c, t⟩⟩⟩ <;> first | exact ⟨a, b, rfl, h⟩ | cases h
theorem zcw {d : D} {i : Int} (h : intD d = some i) : d = .int i := by cases d <;> cases h; rfl
theorem zbU {d : D} {i : List Nat} (h : strO d = some i) : d = .str i := by cases d <;> cases h; rfl
theorem zjW {d : D} {i : List D} (h : lstO d = some i) : d = .list i := by cases d <;> cases h; rfl
theorem zeN {f : List Nat → List Nat → List Nat → Option R} {ds : List D} {r : R} (h : str3 f ds = some r) : ∃ a b c, ds = [.str a, .str b, .str c] ∧ f a b c = some r := by
  rcases ds with _ | ⟨a, _ | ⟨b, _ | ⟨c, _ | ⟨d, t⟩⟩⟩⟩
  case cons.cons.cons.nil =>
    obtain ⟨a, e, h⟩ := Option.bind_eq_some_iff.mp h
    obtain ⟨b, e2, h⟩ := Option.bind_eq_some_iff.mp h
    obtain ⟨c, e3, h⟩ := Option.bind_eq_some_iff.mp h
    exact ⟨a, b, c, by rw [zbU e, zbU e2, zbU e3], h⟩
  all_goals cases h
theorem ze6 {f : Int → Int → Option R} {ds : List D} {r : R} (h : int2 f ds = some r) : ∃ a b, ds = [.int a, .int b] ∧ f a b = some r := by
  obtain ⟨a, b, rfl, h⟩ := zcC h
  obtain ⟨i, e, h⟩ := Option.bind_eq_some_iff.mp h
  obtain ⟨j, e2, h⟩ := Option.bind_eq_some_iff.mp h
  exact ⟨i, j, by rw [zcw e, zcw e2], h⟩
section
variable {cx : XCx}
theorem za2 : OpOK cx .add (op2 (binaryOp .Add)) := by
  intro n A F s vs ds r ok bud w q he Q E hQ
  obtain ⟨a, b, rfl, he⟩ := zcC (f := addD) he
  obtain ⟨x, y, rfl, qa, qb⟩ := q.two
  cases a with
  | int a =>
    obtain ⟨b, e, he⟩ := Option.bind_eq_some_iff.mp he
    cases zcw e
    cases he
    obtain ⟨t, rfl⟩ := qa.int_inv
    obtain ⟨u, rfl⟩ := qb.int_inv
    exact P.add_int (hQ _ F _ ((Step.refl w).toks _) (.val (.int _ _)))
  | str a =>
    obtain ⟨b, e, he⟩ := Option.bind_eq_some_iff.mp he
    cases zbU e
    obtain ⟨hl, rfl⟩ := zcb he
    obtain ⟨t, rfl, pa, za⟩ := qa.str_inv
    obtain ⟨u, rfl, pb, zb⟩ := qb.str_inv
    refine PyProof.Rows.add_str (fun t' tk => hQ _ F _ ((Step.refl w).toks _) (.val ?_)) (by
      show a.toArray.size + b.toArray.size ≤ sizeLine
      rw [List.size_toArray, List.size_toArray]; exact zba hl)
    rw [show (PySem.Str.mk a.toArray ++ PySem.Str.mk b.toArray) = PySem.Str.mk (a ++ b).toArray from congrArg PySem.Str.mk (by simp)]
    exact .str _ (fun c hc => (List.mem_append.mp hc).elim (pa c) (pb c)) (by rw [List.length_append]; exact hl)
  | list a =>
    obtain ⟨b, e, he⟩ := Option.bind_eq_some_iff.mp he
    cases zjW e
    obtain ⟨hl, rfl⟩ := zcb he
    obtain ⟨l, vs, k, rfl, nx, g, z, q1⟩ := qa.list_inv w
    obtain ⟨l', vs', k', rfl, nx', g', z', q2⟩ := qb.list_inv w
    have hz : (vs ++ vs').length ≤ lim := by rw [List.length_append, q1.length, q2.length]; exact hl
    have ea : vs.toArray ++ vs'.toArray = (vs ++ vs').toArray := by simp
    refine concat_meets ⟨_, g, rfl⟩ ⟨_, g', rfl⟩ noFill_list_add seq_list_add PySem.F.slot_list_add PySem.F.entry_list_add (PySem.F.args_list_add_2 _ _) (list_addW l l' vs.toArray vs'.toArray k k' none none #[] #[] (by rw [List.size_toArray, List.size_toArray, ← List.length_append]; exact zba hz)) ⟨g, g', ?_⟩
    rw [ea]
    exact hQ _ F _ (Step.push ok w _ _) (.pushOwn w hz (q1.append q2))
  | _ => cases he
theorem zex : OpOK cx .sub (op2 (binaryOp .Sub)) := by
  intro n A F s vs ds r ok bud w q he Q E hQ
  obtain ⟨a, b, rfl, he⟩ := ze6 (show opSub ds = some r from he)
  cases he
  obtain ⟨x, y, rfl, qa, qb⟩ := q.two
  obtain ⟨t, rfl⟩ := qa.int_inv
  obtain ⟨u, rfl⟩ := qb.int_inv
  exact P.sub_int (hQ _ F _ ((Step.refl w).toks _) (.val (.int _ _)))
theorem zdo : OpOK cx .neg (op1 (unaryOp .USub)) := by
  intro n A F s vs ds r ok bud w q he Q E hQ
  delta opF at he; dsimp only at he
  unfold opNeg at he
  split at he <;> cases he
  obtain ⟨x, rfl, qa⟩ := q.one
  obtain ⟨t, rfl⟩ := qa.int_inv
  exact P.neg_int (hQ _ F _ ((Step.refl w).toks _) (.val (.int _ _)))
theorem zkv : OpOK cx .fdiv (op2 (binaryOp .FloorDiv)) := by
  intro n A F s vs ds r ok bud w q he Q E hQ
  obtain ⟨a, b, rfl, he⟩ := ze6 (show opDiv ds = some r from he)
  by_cases hb : b = 0
  · cases (if_pos hb).symm.trans he
  cases (if_neg hb).symm.trans he
  obtain ⟨x, y, rfl, qa, qb⟩ := q.two
  obtain ⟨t, rfl⟩ := qa.int_inv
  obtain ⟨u, rfl⟩ := qb.int_inv
  obtain ⟨env, l, e1, e2, e3, e4, e5⟩ := bud.fr
  refine PyProof.Rows.floordiv_int hb (hQ _ F _ ((Step.refl w).toks _) (.val (.int _ _))) (.inr (PylongRoom.of (w.lim ok) ?_ (SeerAt.of (ok.seer _ w.base) ok.tree e1 e2 e3 e4 e5)))
  exact Nat.lt_of_le_of_lt (Nat.add_le_add_right (Nat.le_of_lt (Nat.lt_of_le_of_lt (Nat.le_add_right _ _) bud.dp)) 100) (by decide)
theorem zku : OpOK cx .mod (op2 (binaryOp .Mod)) := by
  intro n A F s vs ds r ok bud w q he Q E hQ
  obtain ⟨a, b, rfl, he⟩ := ze6 (show opMod ds = some r from he)
  by_cases hb : b = 0
  · cases (if_pos hb).symm.trans he
  cases (if_neg hb).symm.trans he
  obtain ⟨x, y, rfl, qa, qb⟩ := q.two
  obtain ⟨t, rfl⟩ := qa.int_inv
  obtain ⟨u, rfl⟩ := qb.int_inv
  exact PyProof.Rows.mod_int' hb (hQ _ F _ ((Step.refl w).toks _) (.val (.int _ _)))
theorem zeG {op : CmpOp} {f : D → D → Option Bool} {vs : List Value} {ds : List D} {F : AP} {s : Shared} {A : Around} {r : R} (w : Wd cx F s) (q : BRepL cx F s.heap vs ds) (he : opBool f ds = some r)
    (h : ∀ x y a b c, BRep cx F s.heap x a → BRep cx F s.heap y b → f a b = some c → ∀ (Q E : VP), (∀ k, Q (.bool c) { s with toks := k }) → wpAny (model cx.prog cx.w) A (compareOp op x y) Q E s) :
    Ev cx A F s (op2 (compareOp op) vs) r := by
  intro Q E hQ
  unfold opBool at he
  split at he
  · obtain ⟨c, hc, e⟩ := Option.map_eq_some_iff.mp he
    cases e
    obtain ⟨x, y, rfl, qa, qb⟩ := q.two
    exact h x y _ _ c qa qb hc Q E fun k => hQ _ F _ ((Step.refl w).toks k) (.val (.bool _))
  · cases he
theorem BRep.reads {F : AP} {h : Heap} {v : Value} {d : D} {n : Nat} (q : BRep cx F h v d) (e : d.ok n = true) (hn : n ≤ 60) : (∃ as, Reads h v d.toPy as) ∧ PySem.SeqAt.shaped d.toPy = true := by
  cases q with
  | rep q => exact ⟨q.reads e, q.shaped e hn⟩
  | own nx g z q =>
    cases n with
    | zero => simp [D.ok] at e
    | succ n =>
      simp only [D.ok] at e
      obtain ⟨as, x⟩ := q.reads e
      refine ⟨⟨_, by unfold D.toPy; exact Reads.list g rfl rfl (by rw [List.toList_toArray]; exact x)⟩, ?_⟩
      have l := q.lay e
      unfold PySem.SeqAt.shaped D.toPy PyData.canLay0 PyData.depth
      rw [l.1, Bool.true_and]; exact decide_eq_true (by omega)
theorem zfF (a b : List Nat) : ((PySem.Str.mk a.toArray).cps.toList == (PySem.Str.mk b.toArray).cps.toList) = decide (a = b) := by
  show (a == b) = decide (a = b)
  by_cases h : a = b
  · subst h; simp
  · simp [h]
theorem eq_ok {F : AP} {s : Shared} {A : Around} {n : Nat} {x y : Value} {a b : D} {c : Bool} (bud : BudE n A) (qa : BRep cx F s.heap x a) (qb : BRep cx F s.heap y b) (hc : eqD a b = some c)
    {Q E : VP} (h : ∀ k, Q (.bool c) { s with toks := k }) : wpAny (model cx.prog cx.w) A (compareOp .Eq x y) Q E s := by
  unfold eqD at hc
  split at hc
  · cases hc
    obtain ⟨t, rfl, _, _⟩ := qa.str_inv
    obtain ⟨u, rfl, _, _⟩ := qb.str_inv
    exact P.eq_str (by rw [zfF]; exact h s.toks)
  · cases hc
    obtain ⟨t, rfl⟩ := qa.int_inv
    obtain ⟨u, rfl⟩ := qb.int_inv
    exact P.eq_int (by rw [show ∀ i j : Int, (i == j) = decide (i = j) from fun i j => rfl]; exact h s.toks)
  · split at hc <;> cases hc
    rename_i hok
    simp only [Bool.and_eq_true] at hok
    obtain ⟨⟨as, ra⟩, sa⟩ := qa.reads hok.1 (by decide)
    obtain ⟨⟨bs, rb⟩, sb⟩ := qb.reads hok.2 (by decide)
    exact PyProof.Rows.eq_dataH ra rb sa sb (bud.lt (by decide)) (h s.toks)
theorem ne_ok {F : AP} {s : Shared} {A : Around} {n : Nat} {x y : Value} {a b : D} {c : Bool} (bud : BudE n A) (qa : BRep cx F s.heap x a) (qb : BRep cx F s.heap y b) (hc : eqD a b = some c)
    {Q E : VP} (h : ∀ k, Q (.bool (!c)) { s with toks := k }) : wpAny (model cx.prog cx.w) A (compareOp .NotEq x y) Q E s := by
  unfold eqD at hc
  split at hc
  · cases hc
    obtain ⟨t, rfl, _, _⟩ := qa.str_inv
    obtain ⟨u, rfl, _, _⟩ := qb.str_inv
    exact P.ne_str (by show Q (.bool (!(_ == _))) s; rw [zfF]; exact h s.toks)
  · cases hc
    obtain ⟨t, rfl⟩ := qa.int_inv
    obtain ⟨u, rfl⟩ := qb.int_inv
    exact P.ne_int (by show Q (.bool (!(_ == _))) s; exact h s.toks)
  · split at hc <;> cases hc
    rename_i hok
    simp only [Bool.and_eq_true] at hok
    obtain ⟨⟨as, ra⟩, sa⟩ := qa.reads hok.1 (by decide)
    obtain ⟨⟨bs, rb⟩, sb⟩ := qb.reads hok.2 (by decide)
    exact PyProof.Rows.ne_dataH ra rb sa sb (bud.lt (by decide)) (h s.toks)
theorem op_eq : OpOK cx .eq (op2 (compareOp .Eq)) := by
  intro n A F s vs ds r ok bud w q he
  exact zeG w q he fun x y a b c qa qb hc Q E h => eq_ok bud qa qb hc h
theorem op_ne : OpOK cx .ne (op2 (compareOp .NotEq)) := by
  intro n A F s vs ds r ok bud w q he
  refine zeG w q he fun x y a b c qa qb hc Q E h => ?_
  obtain ⟨c', hc', rfl⟩ := Option.map_eq_some_iff.mp hc
  exact ne_ok bud qa qb hc' h
theorem in_ok {F : AP} {s : Shared} {A : Around} {n : Nat} {x y : Value} {a b : D} {c : Bool} (w : Wd cx F s) (bud : BudE n A) (qa : BRep cx F s.heap x a) (qb : BRep cx F s.heap y b) (hc : inD a b = some c)
    {Q E : VP} (h : ∀ k, Q (.bool c) { s with toks := k }) : wpAny (model cx.prog cx.w) A (compareOp .In x y) Q E s := by
  have hu : A.units + 65 < cLine := bud.lt (by decide)
  unfold inD at hc
  split at hc
  · rename_i l
    split at hc <;> cases hc
    rename_i hok
    simp only [Bool.and_eq_true] at hok
    obtain ⟨⟨as, ra⟩, sa⟩ := qa.reads hok.2 (by decide)
    obtain ⟨⟨bs, rb⟩, sb⟩ := qb.reads (n := 9) (by simp only [D.ok]; exact hok.1) (by decide)
    unfold D.toPy at rb sb
    have l1 := SeqAt.canLay_of_shaped sb
    have l2 := SeqAt.canLay_of_shaped sa
    have l3 := SeqAt.depth_of_shaped sa
    have l4 := Nat.min_le_right (PyData.depthAll (D.toPys l)) a.toPy.depth
    exact SeqAt.in_list_reads rb ra l1 l2 (by show A.units + 1 + _ < 9900; have := bud.un; omega) (h s.toks)
  · rename_i l
    split at hc <;> cases hc
    rename_i hok
    simp only [Bool.and_eq_true] at hok
    obtain ⟨⟨as, ra⟩, sa⟩ := qa.reads hok.2 (by decide)
    obtain ⟨⟨bs, rb⟩, sb⟩ := qb.reads (n := 9) (by simp only [D.ok]; exact hok.1) (by decide)
    unfold D.toPy at rb sb
    have l1 := SeqAt.canLay_of_shaped sb
    have l2 := SeqAt.canLay_of_shaped sa
    have l3 := SeqAt.depth_of_shaped sa
    have l4 := Nat.min_le_right (PyData.depthAll (D.toPys l)) a.toPy.depth
    exact SeqAt.in_tuple_reads rb ra l1 l2 (by show A.units + 1 + _ < 9900; have := bud.un; omega) (h s.toks)
  · split at hc <;> cases hc
    obtain ⟨t, rfl, _, _⟩ := qa.str_inv
    obtain ⟨u, rfl, _, _⟩ := qb.str_inv
    exact P.in_str (h s.toks)
  · cases hc
theorem zjO {F : AP} {s : Shared} {A : Around} {n : Nat} {x y : Value} {a b : D} {c : Bool} (w : Wd cx F s) (bud : BudE n A) (qa : BRep cx F s.heap x a) (qb : BRep cx F s.heap y b) (hc : inD a b = some c)
    {Q E : VP} (h : ∀ k, Q (.bool (!c)) { s with toks := k }) : wpAny (model cx.prog cx.w) A (compareOp .NotIn x y) Q E s := by
  have hu : A.units + 65 < cLine := bud.lt (by decide)
  unfold inD at hc
  split at hc
  · rename_i l
    split at hc <;> cases hc
    rename_i hok
    simp only [Bool.and_eq_true] at hok
    obtain ⟨⟨as, ra⟩, sa⟩ := qa.reads hok.2 (by decide)
    obtain ⟨⟨bs, rb⟩, sb⟩ := qb.reads (n := 9) (by simp only [D.ok]; exact hok.1) (by decide)
    unfold D.toPy at rb sb
    have l1 := SeqAt.canLay_of_shaped sb
    have l2 := SeqAt.canLay_of_shaped sa
    have l3 := SeqAt.depth_of_shaped sa
    have l4 := Nat.min_le_right (PyData.depthAll (D.toPys l)) a.toPy.depth
    exact SeqAt.notIn_list_reads rb ra l1 l2 (by show A.units + 1 + _ < 9900; have := bud.un; omega) (h s.toks)
  · rename_i l
    split at hc <;> cases hc
    rename_i hok
    simp only [Bool.and_eq_true] at hok
    obtain ⟨⟨as, ra⟩, sa⟩ := qa.reads hok.2 (by decide)
    obtain ⟨⟨bs, rb⟩, sb⟩ := qb.reads (n := 9) (by simp only [D.ok]; exact hok.1) (by decide)
    unfold D.toPy at rb sb
    have l1 := SeqAt.canLay_of_shaped sb
    have l2 := SeqAt.canLay_of_shaped sa
    have l3 := SeqAt.depth_of_shaped sa
    have l4 := Nat.min_le_right (PyData.depthAll (D.toPys l)) a.toPy.depth
    exact SeqAt.notIn_tuple_reads rb ra l1 l2 (by show A.units + 1 + _ < 9900; have := bud.un; omega) (h s.toks)
  · split at hc <;> cases hc
    obtain ⟨t, rfl, _, _⟩ := qa.str_inv
    obtain ⟨u, rfl, _, _⟩ := qb.str_inv
    exact P.notIn_str (h s.toks)
  · cases hc
theorem op_in : OpOK cx .in_ (op2 (compareOp .In)) := by
  intro n A F s vs ds r ok bud w q he
  exact zeG w q he fun x y a b c qa qb hc Q E h => in_ok w bud qa qb hc h
theorem zgU : OpOK cx .notin (op2 (compareOp .NotIn)) := by
  intro n A F s vs ds r ok bud w q he
  refine zeG w q he fun x y a b c qa qb hc Q E h => ?_
  obtain ⟨c', hc', rfl⟩ := Option.map_eq_some_iff.mp hc
  exact zjO w bud qa qb hc' h
theorem zgT {op : CmpOp} {f : Int → Int → Bool} {g : List Nat → List Nat → Bool} {vs : List Value} {ds : List D} {F : AP} {s : Shared} {A : Around} {r : R} (w : Wd cx F s) (q : BRepL cx F s.heap vs ds) (he : opCmp f g ds = some r)
    (h1 : ∀ a b t u (Q E : VP), Q (.bool (f a b)) s → wpAny (model cx.prog cx.w) A (compareOp op (.int a t) (.int b u)) Q E s)
    (h2 : ∀ a b t u (Q E : VP), Q (.bool (g a b)) s → wpAny (model cx.prog cx.w) A (compareOp op (.str ⟨a.toArray⟩ t) (.str ⟨b.toArray⟩ u)) Q E s) :
    Ev cx A F s (op2 (compareOp op) vs) r := by
  intro Q E hQ
  obtain ⟨a, b, rfl, he⟩ := zcC (show two (cmpD f g) ds = some r from he)
  obtain ⟨x, y, rfl, qa, qb⟩ := q.two
  cases a with
  | int a =>
    obtain ⟨b, e, he⟩ := Option.bind_eq_some_iff.mp he
    cases zcw e
    cases he
    obtain ⟨t, rfl⟩ := qa.int_inv
    obtain ⟨u, rfl⟩ := qb.int_inv
    exact h1 _ _ _ _ _ _ (hQ _ F _ (Step.refl w) (.val (.bool _)))
  | str a =>
    obtain ⟨b, e, he⟩ := Option.bind_eq_some_iff.mp he
    cases zbU e
    cases he
    obtain ⟨t, rfl, _, _⟩ := qa.str_inv
    obtain ⟨u, rfl, _, _⟩ := qb.str_inv
    exact h2 _ _ _ _ _ _ (hQ _ F _ (Step.refl w) (.val (.bool _)))
  | _ => cases he
theorem op_lt : OpOK cx .lt (op2 (compareOp .Lt)) := fun n A F s vs ds r ok bud w q he =>
  zgT w q he (fun _ _ _ _ _ _ h => P.lt_int h) fun _ _ _ _ _ _ h => P.lt_str h
theorem op_le : OpOK cx .le (op2 (compareOp .LtE)) := fun n A F s vs ds r ok bud w q he =>
  zgT w q he (fun _ _ _ _ _ _ h => P.le_int h) fun _ _ _ _ _ _ h => P.le_str h
theorem op_gt : OpOK cx .gt (op2 (compareOp .Gt)) := fun n A F s vs ds r ok bud w q he =>
  zgT w q he (fun _ _ _ _ _ _ h => P.gt_int h) fun _ _ _ _ _ _ h => P.gt_str h
theorem op_ge : OpOK cx .ge (op2 (compareOp .GtE)) := fun n A F s vs ds r ok bud w q he =>
  zgT w q he (fun _ _ _ _ _ _ h => P.ge_int h) fun _ _ _ _ _ _ h => P.ge_str h
end
end Mine
end
section
open PySem PySem.Calls PyProof.Rows PySem.Builtin.Str
namespace Mine
section
variable {cx : XCx}
theorem zdE {i : Int} (h : small i = true) : -1000000000 ≤ i ∧ i ≤ 1000000000 := by
  unfold small at h
  simpa [Bool.and_eq_true, decide_eq_true_eq] using h
theorem zjC (i : Int) (n : Nat) : place i n = seqIndex? i n := by
  rcases Int.lt_or_le i 0 with h | h
  · have h0 : ¬ 0 ≤ i := by omega
    simp only [place, seqIndex?, if_neg h0, if_pos h]
    by_cases h2 : 0 ≤ i + n
    · have h3 : i + n < n := by omega
      simp [h2, h3]
    · simp [h2]
  · have h0 : ¬ i < 0 := by omega
    simp only [place, seqIndex?, if_pos h, if_neg h0]
    by_cases h2 : i < n
    · simp [h, h2]
    · simp [h2]
theorem zdS {α β : Type} {l : List α} {i : Int} {f : α → β} {r : β} (h : (match place i l.length with | some k => (l[k]?).map f | none => none) = some r) : ∃ k d, seqIndex? i l.length = some k ∧ l[k]? = some d ∧ f d = r := by
  cases e : place i l.length with
  | none => rw [e] at h; cases h
  | some k =>
    rw [e] at h
    obtain ⟨d, h1, h2⟩ := Option.map_eq_some_iff.mp h
    exact ⟨k, d, zjC i _ ▸ e, h1, h2⟩
theorem ziH {s : Shared} {A : Around} {l : Addr} {items : Array Value} {i : Int} {t : Tok} {j : Nat} {x : Value} {Q E : VP} (hl : s.heap.IsList l items) (h1 : -2 ^ 63 ≤ i) (h2 : i < 2 ^ 63) (hj : seqIndex? i items.size = some j) (hx : items[j]? = some x) (h : Q x s) :
    wpAny (model cx.prog cx.w) A (getItem (.ref l) (.int i t)) Q E s := by
  obtain ⟨hc, e⟩ := zcb (show (if _ then some (if i < 0 then i + items.size else i).toNat else none) = some j from hj)
  by_cases h0 : i < 0
  · rw [if_pos h0] at e hc
    have hc := of_decide_eq_true ((Bool.and_eq_true _ _).mp hc).1
    exact wpAny_getItem_list_neg hl h0 (Int.neg_le_of_neg_le (by omega)) h1 (by rw [e]; exact hx) h
  · rw [if_neg h0] at e
    exact wpAny_getItem_list hl (Int.not_lt.mp h0) h2 (by rw [e]; exact hx) h
theorem zfN {F : AP} {s : Shared} {A : Around} {x y : Value} {a b : D} {r : R} (w : Wd cx F s) (qa : BRep cx F s.heap x a) (qb : BRep cx F s.heap y b) (he : opIndex [a, b] = some r) {Q E : VP}
    (hQ : ∀ v k, RepR cx F s.heap s.heap v r → Q v { s with toks := k }) : wpAny (model cx.prog cx.w) A (getItem x y) Q E s := by
  obtain ⟨i, e, he⟩ := Option.bind_eq_some_iff.mp (show (intD b).bind (fun i => if small i then idxD i a else none) = some r from he)
  cases zcw e
  obtain ⟨u, rfl⟩ := qb.int_inv
  by_cases hs : small i = true
  · replace he := (if_pos hs).symm.trans he
    obtain ⟨h1, h2⟩ := zdE hs
    have h1 : -2 ^ 63 ≤ i := Int.le_trans (by decide) h1
    have h2 : i < 2 ^ 63 := Int.lt_of_le_of_lt h2 (by decide)
    clear hs
    cases a with
    | str l =>
      obtain ⟨k, c, hk, hc, rfl⟩ := zdS he
      obtain ⟨t, rfl, p, z⟩ := qa.str_inv
      refine P.getItem_str (c := c) (by rw [decide_eq_false (Int.not_lt.mpr h1), decide_eq_false (Int.not_le.mpr h2)]; rfl) ?_ (hQ _ _ (.val (Rep.str (l := [c]) _ (fun d hd => by rw [List.mem_singleton.mp hd]; exact p c (List.mem_of_getElem? hc)) (by show 1 ≤ lim; decide))))
      show (seqIndex? i l.toArray.size).bind _ = _
      rw [List.size_toArray, hk]
      exact (List.getElem?_toArray ..).trans hc
    | list l =>
      obtain ⟨k, d, hk, hc, rfl⟩ := zdS he
      obtain ⟨a, ws, m, rfl, nx, g, z, ql⟩ := qa.list_inv w
      obtain ⟨v, hv, rv⟩ := ql.get hc
      exact ziH (zbJ g) h1 h2 (by rw [List.size_toArray, ql.length]; exact hk) ((List.getElem?_toArray ..).trans hv) (hQ _ s.toks (.val rv))
    | tup l =>
      obtain ⟨k, d, hk, hc, rfl⟩ := zdS he
      obtain ⟨a, ws, m, rfl, f, g, z, ql⟩ := qa.tup_inv
      obtain ⟨v, hv, rv⟩ := ql.get hc
      exact PyProof.Rows.getItem_tuple (ze5 g) h1 h2 (by rw [List.size_toArray, ql.length]; exact hk) ((List.getElem?_toArray ..).trans hv) (hQ _ s.toks (.val rv))
    | _ => cases he
  · cases (if_neg hs).symm.trans he
theorem zjH : OpOK cx .index (op2 getItem) := by
  intro n A F s vs ds r ok bud w q he Q E hQ
  obtain ⟨a, b, rfl, he⟩ := zcC (show opIndex ds = some r from he)
  obtain ⟨x, y, rfl, qa, qb⟩ := q.two
  exact zfN w qa qb he fun v k rv => hQ v F _ ((Step.refl w).toks k) rv
theorem zi8 (i : Int) (n : Nat) : clip i n = clipAt n i := by
  unfold clip clipAt
  by_cases h : i < 0
  · rw [if_pos h, if_pos h, Int.min_eq_left (by have := Int.add_le_add_right (Int.le_of_lt h) (n : Int); rwa [Int.zero_add] at this)]
    rcases Int.le_total 0 (i + n) with q | q
    · rw [Int.max_eq_right q]
    · rw [Int.max_eq_left q, Int.toNat_of_nonpos q]; rfl
  · rw [if_neg h, if_neg h]
    by_cases g : i < n
    · rw [if_pos g, Int.min_eq_left (Int.le_of_lt g), Int.max_eq_right (Int.not_lt.mp h)]
    · rw [if_neg g, Int.min_eq_right (Int.not_lt.mp g), Int.max_eq_right (Int.natCast_nonneg n)]; rfl
theorem zdT {F : AP} {h : Heap} {v : Value} {d : D} {o : Option Int} (q : BRep cx F h v d) (e : partD d = some o) : IsPart v o ∧ (∃ p : Option (Int × Tok), v = partValue p ∧ p.map (·.1) = o) := by
  cases d <;> try (cases e; done)
  · cases e; rw [q.none_inv]; exact ⟨.none, none, rfl, rfl⟩
  · rename_i i
    replace e : (if small i then some (some i) else none) = some o := e
    split at e <;> cases e
    obtain ⟨t, rfl⟩ := q.int_inv
    exact ⟨.int _ t, some (_, t), rfl, rfl⟩
theorem zcy {d : D} {k n b : Nat} (h : bound d k n = some b) : ∃ o, partD d = some o ∧ b = o.elim k (clipAt n) := by
  cases d <;> try (cases h; done)
  · cases h; exact ⟨none, rfl, rfl⟩
  · rename_i i
    replace h : (if small i then some (clip i n) else none) = some b := h
    split at h <;> cases h
    rename_i hi
    exact ⟨some i, if_pos hi, zi8 _ _⟩
theorem zdn (vs : List Value) (lo hi st : Option Int) : slicePick vs.toArray lo hi st = (pick vs lo hi st).toArray := by
  unfold slicePick pick
  simp only [List.size_toArray]
  have e : (fun a : Nat => vs.toArray[a]?) = fun a => vs[a]? := by funext a; simp
  rw [e]
theorem RepL.pick {T : NAd} {F : AP} {h : Heap} {vs : List Value} {ds : List D} (r : RepL T F h vs ds) (lo hi st : Option Int) : RepL T F h (pick vs lo hi st) (Mine.pick ds lo hi st) := by
  unfold Mine.pick
  rw [r.length]
  exact r.pickAt _
theorem zca {α : Type} (l : List α) (lo hi : Option Int) : pick l lo hi none = cut l (lo.elim 0 (clipAt l.length)) (hi.elim l.length (clipAt l.length)) := by
  unfold pick cut
  rw [sliceBounds_plain]
  simp only [sliceRange_one]
  have := pick_run l.toArray (lo.elim 0 (clipAt l.length)) (hi.elim l.length (clipAt l.length) - lo.elim 0 (clipAt l.length))
  simp only [List.getElem?_toArray] at this
  exact this
theorem zeM (l : List Nat) (lo hi : Option Int) : ((strSliceIndices lo hi 1 l.length).filterMap (l[·]?)) = pick l lo hi none := rfl
theorem zgh {α : Type} (l : List α) (lo hi : Option Int) : (pick l lo hi none).length ≤ l.length := by
  rw [zca]; unfold cut
  exact Nat.le_trans (List.length_take_le' _ _) (by rw [List.length_drop]; exact Nat.sub_le _ _)
theorem zet {F : AP} {s : Shared} {A : Around} {E : VP} {Q : VP} (ok : CxOk cx) (w : Wd cx F s) {a sl : Addr} {vs : List Value} {n : Nat} {l : List D} {vl vu vst : Value} {lo hi st : Option Int}
    (g : s.heap.get? a = some (lobj vs.toArray n)) (z : vs.length ≤ lim) (q : RepL cx.T F s.heap vs l) (hs : s.heap.IsSliceOf sl vl vu vst) (pl : IsPart vl lo) (pu : IsPart vu hi) (ps : IsPart vst st) (h0 : st ≠ some 0)
    (hQ : Post cx F s (.own (pick l lo hi st)) Q) : wpAny (model cx.prog cx.w) A (getItem (.ref a) (.ref sl)) Q E s := by
  refine wpAny_getItem_list_slice (zbJ g) hs pl pu ps h0 ?_ (by rw [List.size_toArray]; exact zba z)
  have hsz : (pick vs lo hi st).length ≤ lim := by
    have := slicePick_size_le vs.toArray lo hi st
    rw [zdn, List.size_toArray, List.size_toArray] at this
    exact Nat.le_trans this z
  rw [zdn]
  refine hQ _ F _ (Step.push ok w _ _) (.pushOwn w hsz (q.pick lo hi st))
theorem zi9 (n : Nat) (i : Int) : clipAt n i ≤ n := by
  rw [← zi8]
  unfold clip
  by_cases h : i < 0
  · rw [if_pos h]
    exact Int.toNat_le.mpr (by have := Int.add_le_add_right (Int.le_of_lt h) (n : Int); rwa [Int.zero_add] at this)
  · rw [if_neg h]
    by_cases g : i < n
    · rw [if_pos g]; exact Int.toNat_le.mpr (Int.le_of_lt g)
    · rw [if_neg g]; exact Nat.le_refl _
theorem zjs {a b n : Nat} (h2 : b - a = n) (hb : b ≤ n) (h : 0 < n) : a = 0 := by omega
theorem zia {F : AP} {s : Shared} {A : Around} {E : VP} {Q : VP} (w : Wd cx F s) {sl : Addr} {l : List Nat} {t : Tok} {pl pu : Option (Int × Tok)}
    (p : ∀ c ∈ l, c < 0x110000) (z : l.length ≤ lim) (hs : s.heap.IsSlice sl pl pu none) (hQ : Post cx F s (.val (.str (pick l (pl.map (·.1)) (pu.map (·.1)) none))) Q) :
    wpAny (model cx.prog cx.w) A (getItem (.str ⟨l.toArray⟩ t) (.ref sl)) Q E s := by
  refine wpAny_getItem_str_slice hs (by rfl) ?_
  have hsz := zgh l (pl.map (·.1)) (pu.map (·.1))
  have hp : ∀ c ∈ pick l (pl.map (·.1)) (pu.map (·.1)) none, c < 0x110000 := fun c hc => by
    rw [zca] at hc; unfold cut at hc
    exact p c (List.mem_of_mem_drop (List.mem_of_mem_take hc))
  have e0 : slicePicked ⟨l.toArray⟩ pl pu none = strSliceIndices (pl.map (·.1)) (pu.map (·.1)) 1 l.length := by
    unfold slicePicked
    show strSliceIndices _ _ 1 (l.toArray.size) = _
    rw [List.size_toArray]
  have e1 : ((slicePicked ⟨l.toArray⟩ pl pu none).filterMap ((PySem.Str.mk l.toArray).cps[·]?)) = pick l (pl.map (·.1)) (pu.map (·.1)) none := by
    rw [e0, ← zeM]
    have e : (fun a : Nat => (PySem.Str.mk l.toArray).cps[a]?) = fun a => l[a]? := by funext a; simp
    rw [e]
  unfold sliceMade
  rw [e1]
  by_cases hc : ((((none : Option (Int × Tok)).map (·.1)).getD 1 == 1 && (slicePicked ⟨l.toArray⟩ pl pu none).length == (PySem.Str.mk l.toArray).length) = true)
  · rw [if_pos hc]
    simp only [Bool.and_eq_true, beq_iff_eq] at hc
    have h2 := hc.2
    rw [e0] at h2
    have e3 : strSliceIndices (pl.map (·.1)) (pu.map (·.1)) 1 l.length = sliceRange (sliceBounds (pl.map (·.1)) (pu.map (·.1)) none l.length).1 (sliceBounds (pl.map (·.1)) (pu.map (·.1)) none l.length).2.1 (sliceBounds (pl.map (·.1)) (pu.map (·.1)) none l.length).2.2 := rfl
    rw [e3, sliceBounds_plain, sliceRange_one, List.length_map, List.length_range] at h2
    have h3 : (PySem.Str.mk l.toArray).length = l.length := by show l.toArray.size = _; rw [List.size_toArray]
    rw [h3] at h2
    have hb : (pu.map (·.1)).elim l.length (clipAt l.length) ≤ l.length := by
      cases (pu.map (·.1)) with
      | none => exact Nat.le_refl _
      | some i => exact zi9 _ _
    have : pick l (pl.map (·.1)) (pu.map (·.1)) none = l := by
      rw [zca]
      unfold cut
      rcases Nat.eq_zero_or_pos l.length with h | h
      · rw [List.length_eq_zero_iff.mp h]; simp
      · have e2 : (pl.map (·.1)).elim 0 (clipAt l.length) = 0 := zjs h2 hb h
        rw [e2] at h2
        rw [e2, List.drop_zero, List.take_of_length_le (Nat.le_of_eq h2.symm)]
    rw [this] at hQ
    exact hQ _ F _ (Step.refl w) (.val (.str t p z))
  · rw [if_neg hc]
    exact ⟨Nat.le_trans (by show (List.toArray _).size ≤ l.length; rw [List.size_toArray]; exact hsz) (zba z), hQ _ F _ ((Step.refl w).toks _) (.val (.str _ hp (Nat.le_trans hsz z)))⟩
end
section
variable {cx : XCx} {ε : Sc}
theorem zcn (slice : Expr) (o i : Value) : ∃ ops, subscripted slice false o i = operate ops (getItem o i) := by
  cases slice with
  | Slice l u st p => cases st <;> exact ⟨_, rfl⟩
  | _ => exact ⟨_, rfl⟩
noncomputable def seqD : D → Bool
  | .str _ | .list _ | .tup _ => true
  | _ => false
theorem zdL {F : AP} {s : Shared} {A : Around} {value slice : Expr} {o i : Value} {d : D} {Q E : VP} (w : Wd cx F s) (q : BRep cx F s.heap o d) (hd : seqD d = true)
    (h : wpAny (model cx.prog cx.w) A (getItem o i) Q E s) : wpAny (model cx.prog cx.w) A (subscriptTail value slice o i) Q E s := by
  obtain ⟨ops, hs⟩ := zcn slice o i
  cases d with
  | str l =>
    obtain ⟨t, rfl, _, _⟩ := q.str_inv
    exact tail_any (typeIs_str s _ _) PySem.F.slot_str_getitem.lookup h hs
  | list l =>
    obtain ⟨a, vs, n, rfl, nx, g, z, _⟩ := q.list_inv w
    exact tail_any (T := "list") ⟨_, g, rfl⟩ list_getitem_lookup h hs
  | tup l =>
    obtain ⟨a, vs, n, rfl, f, g, z, _⟩ := q.tup_inv
    exact tail_any (T := "tuple") ⟨_, g, rfl⟩ PySem.F.slot_tuple_getitem.lookup h hs
  | _ => cases hd
theorem zeu {d e : D} {r : R} (h : opIndex [d, e] = some r) : seqD d = true := by
  obtain ⟨i, _, h⟩ := Option.bind_eq_some_iff.mp (show (intD e).bind (fun i => if small i then idxD i d else none) = some r from h)
  by_cases hs : small i = true
  · replace h := (if_pos hs).symm.trans h
    cases d <;> first | rfl | (cases h; done)
  · cases (if_neg hs).symm.trans h
theorem zag {v i : Expr} {pos : Pos} {xv xi : X} (hv : Sound cx ε v xv) (hi : Sound cx ε i xi) : Sound cx ε (.Subscript v i pos) (.op .index (.cons xv (.cons xi .nil))) := by
  refine Sound.ofE ?_ fun _ => rfl
  intro n cf A env F s ρ ad m cm H res he Q E hQ
  obtain ⟨rs, h1, h2⟩ := ev_op he
  obtain ⟨ra, xs, ha, h3, rfl⟩ := zax h1
  obtain ⟨rb, ys, hb, h4, rfl⟩ := zax h3
  cases zbX h4
  refine Subscript_ ?_
  refine hv.ev n cf A env F s ρ ad m cm H ra ha _ _ fun a F' s' st qa => ?_
  refine hi.ev n cf A env F' s' ρ ad m cm (H.step st) rb hb _ _ fun b F'' s'' st' qb => ?_
  have qa' := st'.brep st.wd qa.brep
  refine zdL st'.wd qa' (zeu h2) ?_
  exact zjH n A F'' s'' [a, b] _ res H.ok H.bud st'.wd (.cons qa' (.cons qb.brep .nil)) h2 _ _ (hQ.after (st.trans st'))
inductive SoundO (cx : XCx) (ε : Sc) : Option Expr → X → Prop
  | no : SoundO cx ε none (.const .none)
  | yes {e : Expr} {x : X} : Sound cx ε e x → SoundO cx ε (some e) x
theorem SoundO.run {o : Option Expr} {x : X} (h : SoundO cx ε o x) {n cf A env F s ρ ad m cm} (H : Here cx ε n cf A env F s ρ ad m cm) {r : R} (hr : ev cf x ρ = some [r]) : Ev cx A F s (evalPart o env) r := by
  cases h with
  | no => replace hr := (zam _).symm.trans hr; cases hr; exact Ev.here H.wd (.val .none)
  | yes h => exact h.ev n cf A env F s ρ ad m cm H r hr
theorem zdl {F : AP} {h : Heap} {v : Value} {d : D} {o : Option Int} (q : BRep cx F h v d) (e : partD d = some o) : ∃ p : Option (Int × Tok), v = partValue p ∧ p.map (·.1) = o := (zdT q e).2
theorem za1 {v : Expr} {l u : Option Expr} {p pos : Pos} {xv xl xu : X} (hv : Sound cx ε v xv) (hl : SoundO cx ε l xl) (hu : SoundO cx ε u xu) :
    Sound cx ε (.Subscript v (.Slice l u none p) pos) (.op .slice (.cons xv (.cons xl (.cons xu .nil)))) := by
  refine Sound.ofE ?_ fun _ => rfl
  intro n cf A env F s ρ ad m cm H res he Q E hQ
  obtain ⟨rs, h1, h2⟩ := ev_op he
  obtain ⟨ra, xs, ha, h3, rfl⟩ := zax h1
  obtain ⟨rb, ys, hb, h4, rfl⟩ := zax h3
  obtain ⟨rc, zs, hc, h5, rfl⟩ := zax h4
  cases zbX h5
  refine Subscript_ ?_
  refine hv.ev n cf A env F s ρ ad m cm H ra ha _ _ fun a F' s' st qa => ?_
  refine wpAny_Slice ?_
  refine hl.run (H.step st) hb _ _ fun vl F1 s1 st1 ql => ?_
  refine hu.run ((H.step st).step st1) hc _ _ fun vu F2 s2 st2 qu => ?_
  refine wpAny_pure ?_
  have st3 := (st.trans st1).trans st2
  have st4 := Step.push H.ok st3.wd { cls := .type "slice", data := .fields #[vl, vu, .none] } s2.toks
  have qa' := st4.brep st3.wd ((st1.trans st2).brep st.wd qa.brep)
  have ql' := st4.brep st3.wd (st2.brep st1.wd ql.brep)
  have qu' := st4.brep st3.wd qu.brep
  have hs := Heap.IsSliceOf.new s2.heap vl vu .none
  replace h2 : opSlice [ra.ds, rb.ds, rc.ds] = some res := h2
  cases hx : ra.ds <;> rw [hx] at h2 <;> try (cases h2; done)
  · rename_i x
    rw [hx] at qa'
    replace h2 : (match bound rb.ds 0 x.length, bound rc.ds x.length x.length with | some lo, some hi => some (R.val (.str (cut x lo hi))) | _, _ => none) = some res := h2
    split at h2
    · rename_i lo hi hlo hhi
      cases h2
      obtain ⟨t, rfl, pp, z⟩ := qa'.str_inv
      refine zdL st4.wd qa' rfl ?_
      obtain ⟨ol, hol, rfl⟩ := zcy hlo
      obtain ⟨ou, hou, rfl⟩ := zcy hhi
      obtain ⟨pl, rfl, e4⟩ := zdl ql' hol
      obtain ⟨pu, rfl, e5⟩ := zdl qu' hou
      refine zia st4.wd (pl := pl) (pu := pu) pp z ?_ ?_
      · obtain ⟨o, h1, h2, h3⟩ := hs; exact ⟨o, h1, h2, h3⟩
      · rw [e4, e5, zca]; exact hQ.after (st3.trans st4)
    · cases h2
  · rename_i x
    rw [hx] at qa'
    replace h2 : (match bound rb.ds 0 x.length, bound rc.ds x.length x.length with | some lo, some hi => some (R.own (cut x lo hi)) | _, _ => none) = some res := h2
    split at h2
    · rename_i lo hi hlo hhi
      cases h2
      obtain ⟨al, vs, k, rfl, nx, g, z, q⟩ := qa'.list_inv st4.wd
      refine zdL st4.wd qa' rfl ?_
      obtain ⟨ol, hol, rfl⟩ := zcy hlo
      obtain ⟨ou, hou, rfl⟩ := zcy hhi
      refine zet H.ok st4.wd g z q hs (zdT ql' hol).1 (zdT qu' hou).1 .none (by intro e; cases e) ?_
      rw [zca]; exact hQ.after (st3.trans st4)
    · cases h2
theorem zco {v st : Expr} {l u : Option Expr} {p pos : Pos} {xv xl xu xs : X} (hv : Sound cx ε v xv) (hl : SoundO cx ε l xl) (hu : SoundO cx ε u xu) (hst : Sound cx ε st xs) :
    Sound cx ε (.Subscript v (.Slice l u (some st) p) pos) (.op .slice3 (.cons xv (.cons xl (.cons xu (.cons xs .nil))))) := by
  refine Sound.ofE ?_ fun _ => rfl
  intro n cf A env F s ρ ad m cm H res he Q E hQ
  obtain ⟨rs, h1, h2⟩ := ev_op he
  obtain ⟨ra, xs', ha, h3, rfl⟩ := zax h1
  obtain ⟨rb, ys, hb, h4, rfl⟩ := zax h3
  obtain ⟨rc, zs, hc, h5, rfl⟩ := zax h4
  obtain ⟨rd, ws, hd, h6, rfl⟩ := zax h5
  cases zbX h6
  refine Subscript_ ?_
  refine hv.ev n cf A env F s ρ ad m cm H ra ha _ _ fun a F' s' st qa => ?_
  refine wpAny_Slice ?_
  refine hl.run (H.step st) hb _ _ fun vl F1 s1 st1 ql => ?_
  refine hu.run ((H.step st).step st1) hc _ _ fun vu F2 s2 st2 qu => ?_
  have st3 := (st.trans st1).trans st2
  refine hst.ev n cf A env F2 s2 ρ ad m cm (H.step st3) rd hd _ _ fun vs F3 s3 st5 qs => ?_
  have st6 := st3.trans st5
  have st4 := Step.push H.ok st6.wd { cls := .type "slice", data := .fields #[vl, vu, vs] } s3.toks
  have qa' := st4.brep st6.wd (((st1.trans st2).trans st5).brep st.wd qa.brep)
  have ql' := st4.brep st6.wd ((st2.trans st5).brep st1.wd ql.brep)
  have qu' := st4.brep st6.wd (st5.brep st3.wd qu.brep)
  have qs' := st4.brep st6.wd qs.brep
  have hs := Heap.IsSliceOf.new s3.heap vl vu vs
  replace h2 : opSlice3 [ra.ds, rb.ds, rc.ds, rd.ds] = some res := h2
  cases hx : ra.ds <;> rw [hx] at h2 <;> try (cases h2; done)
  cases hy : rd.ds <;> rw [hy] at h2 <;> try (cases h2; done)
  · rename_i x k
    rw [hx] at qa'; rw [hy] at qs'
    replace h2 : (match partD rb.ds, partD rc.ds with | some lo, some hi => if k ≠ 0 ∧ small k then some (R.own (pick x lo hi (some k))) else none | _, _ => none) = some res := h2
    split at h2
    · rename_i lo hi hlo hhi
      split at h2 <;> cases h2
      rename_i hk
      obtain ⟨al, vs', k', rfl, nx, g, z, q⟩ := qa'.list_inv st4.wd
      refine zdL st4.wd qa' rfl ?_
      obtain ⟨t, rfl⟩ := qs'.int_inv
      exact zet H.ok st4.wd g z q hs (zdT ql' hlo).1 (zdT qu' hhi).1 (.int _ _) (by intro e; cases e; exact hk.1 rfl) (hQ.after (st6.trans st4))
    · cases h2
end
noncomputable def starred : Expr → Bool
  | .Starred _ _ => true
  | _ => false
theorem zau {e : Expr} {rest : List Expr} {env : Env} (h : starred e = false) : starEach (e :: rest) env = (false, eval e env) :: starEach rest env := by
  cases e <;> first | rfl | cases h
theorem zaH {pos : Pos} {t : Sem Value} {r : List (Bool × Sem Value)} : backTo pos ((false, t) :: r) = (false, t) :: backTo pos r := by
  simp [backTo]
section
variable {cx : XCx} {ε : Sc}
inductive RepRL (cx : XCx) (F : AP) (lo h : Heap) : List Value → List R → Prop
  | nil : RepRL cx F lo h [] []
  | cons {v : Value} {vs : List Value} {r : R} {rs : List R} : RepR cx F lo h v r → RepRL cx F lo h vs rs → RepRL cx F lo h (v :: vs) (r :: rs)
theorem RepRL.brep {F : AP} {lo h : Heap} {vs : List Value} {rs : List R} (q : RepRL cx F lo h vs rs) : BRepL cx F h vs (rs.map R.ds) := by
  induction q with
  | nil => exact .nil
  | cons a _ ih => exact .cons a.brep ih
theorem RepRL.low {F F' F'' : AP} {s s' : Shared} {h : Heap} {vs : List Value} {rs : List R} (x : Step cx F s F' s') (q : RepRL cx F'' s'.heap h vs rs) : RepRL cx F'' s.heap h vs rs := by
  induction q with
  | nil => exact .nil
  | cons a _ ih => exact .cons (a.low x) ih
theorem RepRL.vals {F : AP} {lo h : Heap} {vs : List Value} {l : List D} (q : RepL cx.T F h vs l) : RepRL cx F lo h vs (l.map .val) := by
  induction vs generalizing l with
  | nil => cases q; exact .nil
  | cons v vs ih => cases q with | cons a b => exact .cons (.val a) (ih b)
theorem zfP (ok : CxOk cx) {F : AP} {s : Shared} (w : Wd cx F s) : ∀ {vs : List Value} {rs : List R} {ds : List D} {F' : AP} {s' : Shared} {F₁ : AP}, Step cx F s F₁ s' → (∀ a, F' a → F₁ a) → RepRL cx F' s.heap s'.heap vs rs → fzAll rs = some ds →
    ∃ F'', Step cx F s F'' s' ∧ (∀ a, F₁ a → F'' a) ∧ RepL cx.T F'' s'.heap vs ds := by
  intro vs rs ds F' s' F₁ x hF q e
  induction q generalizing ds F₁ with
  | nil => cases e; exact ⟨F₁, x, fun _ h => h, .nil⟩
  | @cons v vs r rs a b ih =>
    unfold fzAll at e
    split at e
    · rename_i d ds' e1 e2
      cases e
      cases a with
      | val a =>
        cases e1
        obtain ⟨F'', y, hs, q⟩ := ih x hF e2
        exact ⟨F'', y, hs, .cons (a.mono (fun c h => hs c (hF c h)) fun _ _ _ e => e) q⟩
      | own l nf nx g z a =>
        cases e1
        obtain ⟨F'', y, hs, q⟩ := ih (x.freeze ok w l g) (fun c h => .inl (hF c h)) e2
        exact ⟨F'', y, fun c h => hs c (.inl h), .cons (.list (hs _ (.inr rfl)) g z (a.mono (fun c h => hs c (.inl (hF c h))) fun _ _ _ e => e)) q⟩
      | bor _ _ _ _ => cases e1
    · cases e
inductive SoundL (cx : XCx) (ε : Sc) : List Expr → X → Bool → Prop
  | nil : SoundL cx ε [] .nil false
  | cons {e : Expr} {x : X} {es : List Expr} {y : X} {st : Bool} : Sound cx ε e x → starred e = false → SoundL cx ε es y st → SoundL cx ε (e :: es) (.cons x y) st
  | star {e : Expr} {x : X} {p : Pos} : Sound cx ε e x → SoundL cx ε [.Starred e p] (.star x) true
theorem zhO {F : AP} {s : Shared} {A : Around} {E : VP} {Q : List Value → Shared → Prop} (ok : CxOk cx) (w : Wd cx F s) {v : Value} {r : R} {d : D} {l : List D} {lo : Heap} (q : RepR cx F lo s.heap v r) (e : r.fz = some d)
    (hl : d = .list l ∨ d = .tup l)
    (h : ∀ vs s', RepL cx.T F s'.heap vs l → vs.length ≤ lim → Step cx F s F s' → Q vs s') : PySem.W.StarOf (model cx.prog cx.w) A E v Q s := by
  have key : ∃ (a : Addr) (o : Obj) (T : String) (vs : List Value) (n : Nat), v = .ref a ∧ s.heap.get? a = some o ∧ o.cls = .type T ∧ o.data = .seq vs.toArray n ∧ (T = "list" ∨ T = "tuple") ∧ vs.length ≤ lim ∧ RepL cx.T F s.heap vs l := by
    cases q with
    | val q =>
      cases e
      rcases hl with rfl | rfl
      · cases q with | list f g z q => exact ⟨_, _, "list", _, _, rfl, g, rfl, rfl, .inl rfl, z, q⟩
      · cases q with | tup f g z q => exact ⟨_, _, "tuple", _, _, rfl, g, rfl, rfl, .inr rfl, z, q⟩
    | own l nf nx g z q =>
      cases e
      rcases hl with h | h <;> cases h
      exact ⟨_, _, "list", _, _, rfl, g, rfl, rfl, .inl rfl, z, q⟩
    | bor _ _ _ _ => cases e
  obtain ⟨a, o, T, vs, n, rfl, g, hc, hd, hT, z, q⟩ := key
  have hT' : s.TypeIs (.ref a) T := ⟨o, g, hc⟩
  have c : wpAny (model cx.prog cx.w) A (collect (.ref a)) Q E s := by
    refine wpAny_collect_seq a hT g hc hd (fun h' hk => ?_) (by rw [List.size_toArray]; exact zba z)
    exact h vs { s with heap := h' } (q.mono (fun _ h => h) fun a o _ e => hk a o e) z (Step.grown ok w s.toks hk)
  unfold PySem.W.StarOf notIterableAtAll
  rcases hT with rfl | rfl
  · exact wb (wpAny_specialOf hT' PySem.F.slot_list_iter.lookup (wpAny_pure ⟨rfl, c⟩))
  · exact wb (wpAny_specialOf hT' PySem.F.slot_tuple_iter.lookup (wpAny_pure ⟨rfl, c⟩))
theorem ev_star {cf : CfT} {ρ : List Slot} {a : X} {rs : List R} (h : ev cf (.star a) ρ = some rs) : ∃ x d l, ev cf a ρ = some [x] ∧ x.fz = some d ∧ (d = .list l ∨ d = .tup l) ∧ rs = l.map .val := by
  replace h := (zaI _).symm.trans h
  split at h
  · rename_i x e
    split at h
    · rename_i l e'; cases h; exact ⟨x, _, l, e, e', .inl rfl, rfl⟩
    · rename_i l e'; cases h; exact ⟨x, _, l, e, e', .inr rfl, rfl⟩
    · cases h
  · cases h
theorem zgH {n cf A env F s ρ ad m cm} (H : Here cx ε n cf A env F s ρ ad m cm) {e : Expr} {x : X} (h : Sound cx ε e x) {rs : List R} (hr : ev cf (.star x) ρ = some rs) {Q : List Value → Shared → Prop} {E : VP}
    (hQ : ∀ vs F' s', Step cx F s F' s' → RepRL cx F' s.heap s'.heap vs rs → vs.length ≤ lim → Q vs s') : wpAny (model cx.prog cx.w) A (eval e env) (fun v s₁ => PySem.W.StarOf (model cx.prog cx.w) A E v Q s₁) E s := by
  obtain ⟨r, d, l, e1, e2, e3, rfl⟩ := ev_star hr
  refine h.ev n cf A env F s ρ ad m cm H r e1 _ _ fun v F' s' st q => ?_
  obtain ⟨F'', st', hs, rd⟩ := st.fz H.ok H.wd q e2
  have q' : RepR cx F'' s.heap s'.heap v (.val d) := .val rd
  exact zhO H.ok st'.wd q' rfl e3 fun vs s'' ql z st'' => hQ vs F'' s'' (st'.trans st'') (RepRL.vals ql) z
theorem SoundL.run {es : List Expr} {x : X} {b : Bool} (h : SoundL cx ε es x b) {n cf A env} {pos : Pos} :
    ∀ F s ρ ad m cm, Here cx ε n cf A env F s ρ ad m cm → ∀ rs, ev cf x ρ = some rs → ∀ (Q : List Value → Shared → Prop) (E : VP),
      (∀ vs F' s', Step cx F s F' s' → RepRL cx F' s.heap s'.heap vs rs → Q vs s') → wpAny (model cx.prog cx.w) A (spliced (backTo pos (starEach es env))) Q E s := by
  induction h with
  | nil =>
    intro F s ρ ad m cm H rs hr Q E hQ
    cases zbX hr
    exact Calls.spliced_nil (hQ [] F s (Step.refl H.wd) .nil)
  | @cons e x es y st h1 hs h2 ih =>
    intro F s ρ ad m cm H rs hr Q E hQ
    obtain ⟨r, rs', e1, e2, rfl⟩ := zax hr
    rw [zau hs, zaH]
    refine Calls.spliced_cons ?_
    refine h1.ev n cf A env F s ρ ad m cm H r e1 _ _ fun v F' s' st q => ?_
    refine ih F' s' ρ ad m cm (H.step st) rs' e2 _ _ fun vs F'' s'' st' qs => ?_
    exact hQ _ F'' s'' (st.trans st') (.cons (q.step st' st.wd) (qs.low st))
  | @star e x p h1 =>
    intro F s ρ ad m cm H rs hr Q E hQ
    refine PySem.W.ks_spliced (rest := []) (zgH H h1 hr fun vs F' s' st q z => ?_)
    exact Calls.spliced_nil (by rw [List.append_nil]; exact hQ vs F' s' st q)
theorem zaN {es : List Expr} {x : X} {b : Bool} {pos : Pos} (h : SoundL cx ε es x b) : Sound cx ε (.List es pos) (.list x) := by
  refine Sound.ofE ?_ fun _ => rfl
  intro n cf A env F s ρ ad m cm H res he Q E hQ
  replace he := (zaP _).symm.trans he
  split at he
  · rename_i rs e1
    split at he
    · rename_i ds e2
      split at he <;> cases he
      rename_i hz
      show wpAny _ _ (do standAt pos; newList (← spliced (backTo pos (starEach es env)))) Q E s
      refine wb (wpAny_standAt (wb ?_))
      refine h.run F s ρ ad m cm H rs e1 _ _ fun vs F' s' st q => ?_
      obtain ⟨F'', st', _, q'⟩ := zfP H.ok H.wd st (fun _ h => h) q e2
      have z : vs.length ≤ lim := by rw [q'.length]; exact hz
      refine wpAny_newList ?_ (zba z)
      exact hQ _ F'' _ (st'.trans (Step.push H.ok st'.wd _ _)) ((RepR.pushOwn st'.wd z q').low st')
    · cases he
  · cases he
theorem zgS {F : AP} {s : Shared} (ok : CxOk cx) (w : Wd cx F s) {vs : List Value} {l : List D} (k : Nat) (z : vs.length ≤ lim) (q : RepL cx.T F s.heap vs l) :
    ∃ F', Step cx F s F' { s with heap := s.heap.push (tobj vs.toArray 0), toks := k } ∧ Rep cx.T F' (s.heap.push (tobj vs.toArray 0)) (.ref s.heap.objs.size) (.tup l) := by
  have st := Step.push ok w (tobj vs.toArray 0) k
  have g : (s.heap.push (tobj vs.toArray 0)).get? s.heap.objs.size = some (tobj vs.toArray 0) := Heap.get?_push_size _ rfl
  exact ⟨_, st.freeze ok w (zbe _) g, .tup (.inr rfl) g z ((st.repL w q).mono (fun _ h => .inl h) fun _ _ _ e => e)⟩
theorem zbC {es : List Expr} {x : X} {b : Bool} {k : Nat} {pos : Pos} (h : SoundL cx ε es x b) : Sound cx ε (.Tuple es k pos) (.tup x) := by
  refine Sound.ofE ?_ fun _ => rfl
  intro n cf A env F s ρ ad m cm H res he Q E hQ
  replace he := (zbc _).symm.trans he
  split at he
  · rename_i rs e1
    split at he
    · rename_i ds e2
      split at he <;> cases he
      rename_i hz
      show wpAny _ _ (do standAt pos; newTuple (← spliced (backTo pos (starEach es env)))) Q E s
      refine wb (wpAny_standAt (wb ?_))
      refine h.run F s ρ ad m cm H rs e1 _ _ fun vs F' s' st q => ?_
      obtain ⟨F'', st', _, q'⟩ := zfP H.ok H.wd st (fun _ h => h) q e2
      have z : vs.length ≤ lim := by rw [q'.length]; exact hz
      refine wpAny_newTuple ?_ (zba z)
      obtain ⟨F3, st3, r⟩ := zgS H.ok st'.wd s'.toks z q'
      exact hQ _ F3 _ (st'.trans st3) (.val r)
    · cases he
  · cases he
theorem zbf {es : List Expr} {x : X} {b : Bool} {pos : Pos} {env : Env} (h : SoundL cx ε es x b) : (backTo pos (starEach es env)).any (·.1) = b := by
  induction h with
  | nil => rfl
  | cons h1 hs h2 ih => rw [zau hs, zaH, List.any_cons]; simpa using ih
  | star h => rfl
theorem zbu {es : List Expr} {x : X} {b : Bool} {pos : Pos} (h : SoundL cx ε es x b) {n cf A env F s ρ ad m cm} (H : Here cx ε n cf A env F s ρ ad m cm) {rs : List R} (hr : ev cf x ρ = some rs) {f : Value} {Q : Args → Shared → Prop} {E : VP}
    (hQ : ∀ vs F' s', Step cx F s F' s' → RepRL cx F' s.heap s'.heap vs rs → Q ⟨vs, []⟩ s') : wpAny (model cx.prog cx.w) A (evalArgs f true (backTo pos (starEach es env)) []) Q E s := by
  cases h with
  | nil =>
    cases zbX hr
    exact PySem.evalArgs_none (hQ [] F s (Step.refl H.wd) .nil)
  | @cons e x es y b h1 hs h2 =>
    have := (SoundL.cons h1 hs h2).run (pos := pos) F s ρ ad m cm H rs hr
    rw [zau hs, zaH] at this ⊢
    exact Calls.evalArgs_plain (this _ _ hQ)
  | star h1 =>
    exact PySem.W.ks_lone (zgH H h1 hr fun vs F' s' st q _ => hQ vs F' s' st q)
theorem zci {n cf A env F s ρ ad m cm} (H : Here cx ε n cf A env F s ρ ad m cm) {x : Str} {pos : Pos} {v : Value} (hk : ε.kinds.lookup x = some .globalImplicit) (hv : cx.mg x = some v) (hd : (x == ("__debug__" : Str)) = false)
    {Q E : VP} (h : Q v s) : wpAny (model cx.prog cx.w) A (eval (.Name x pos) env) Q E s :=
  Calls.Name_function_global H.env.kind (by unfold Env.kindOf; rw [H.env.names]; exact hk) (Calls.loadGlobal_global (H.env.glob ▸ H.wd.glob H.ok) hv h) hd
theorem zbQ {n cf A env F s ρ ad m cm} (H : Here cx ε n cf A env F s ρ ad m cm) {x : Str} {pos : Pos} {v : Value} (hk : ε.kinds.lookup x = some .globalImplicit) (hg : cx.mg x = none) (hn : x ≠ "__name__") (hv : bootBuiltins x = some v) (hd : (x == ("__debug__" : Str)) = false)
    {Q E : VP} (h : Q v s) : wpAny (model cx.prog cx.w) A (eval (.Name x pos) env) Q E s :=
  Calls.Name_function_global H.env.kind (by unfold Env.kindOf; rw [H.env.names]; exact hk) (Calls.loadGlobal_builtin (H.env.glob ▸ H.wd.glob H.ok) hg (H.env.blt ▸ H.wd.blt H.ok) ((H.ok.bmb x hn).trans hv) h) hd
theorem za3 {f : Expr} {args : List Expr} {pos : Pos} {env : Env} (hf : ∀ o n p, f ≠ .Attribute o n p) : eval (.Call f args [] pos) env = (do callWith pos (← eval f env) [] (backTo pos (starEach args env)) []) := by
  cases f <;> first | rfl | exact absurd rfl (hf _ _ _)
theorem zap {f : Str} {i : Nat} {p pos : Pos} {es : List Expr} {x : X} {b : Bool} (hk : ε.kinds.lookup f = some .globalImplicit) (hv : cx.mg f = some (.ref (cx.fa i))) (hd : (f == ("__debug__" : Str)) = false) (h : SoundL cx ε es x b) :
    Sound cx ε (.Call (.Name f p) es [] pos) (.call i x) := by
  refine Sound.ofE ?_ fun _ => rfl
  intro n cf A env F s ρ ad m cm H res he Q E hQ
  replace he := (zaE _).symm.trans he
  split at he
  · rename_i rs e1
    split at he
    · rename_i ds e2
      obtain ⟨d, e3, e4⟩ := Option.map_eq_some_iff.mp he
      cases e4
      rw [za3 (by intro _ _ _ e; cases e)]
      obtain ⟨⟨o, fd, g, hfd, nx⟩, hcall⟩ := H.calls.call i ds d e3
      refine wb (zci H hk hv hd ?_)
      refine Calls.callWith_function (o := o) (fd := fd) (zbu h H e1 fun vs F' s' st q => ?_)
      obtain ⟨F'', st', _, q'⟩ := zfP H.ok H.wd st (fun _ h => h) q e2
      refine ⟨⟨st'.wd.base _ _ g nx, hfd⟩, ?_⟩
      show wpAny _ _ (call (.ref (cx.fa i)) vs) Q E s'
      refine wpAny_call (hcall A F'' s' vs H.bud.toBud st'.wd q' _ fun v F3 s3 st3 r => ?_)
      exact hQ v F3 s3 (st'.trans st3) (.val r)
    · cases he
  · cases he
inductive Callee : Value → Prop
  | builtin (id : String) : Callee (.builtin id)
  | type (T : String) : Callee (.type T)
theorem zar {f : Str} {c : Value} {o : Op} {p pos : Pos} {es : List Expr} {x : X} (hk : ε.kinds.lookup f = some .globalImplicit) (hg : cx.mg f = none) (hn : f ≠ "__name__") (hv : bootBuiltins f = some c) (hc : Callee c)
    (hd : (f == ("__debug__" : Str)) = false) (h : SoundL cx ε es x false) (ho : OpOK cx o (fun vs => call c vs)) : Sound cx ε (.Call (.Name f p) es [] pos) (.op o x) := by
  refine Sound.ofE ?_ fun _ => rfl
  intro n cf A env F s ρ ad m cm H res he Q E hQ
  obtain ⟨rs, e1, e2⟩ := ev_op he
  rw [za3 (by intro _ _ _ e; cases e)]
  refine wb (zbQ H hk hg hn hv hd ?_)
  cases hc with
  | builtin id =>
    refine Calls.callWith_builtin (zbf h) (zbu h H e1 fun vs F' s' st q => ?_)
    exact ho n A F' s' vs _ res H.ok H.bud st.wd q.brep e2 _ _ (hQ.after st)
  | type T =>
    refine PyProof.Rows.callWith_type (zbf h) (zbu h H e1 fun vs F' s' st q => ?_)
    exact ho n A F' s' vs _ res H.ok H.bud st.wd q.brep e2 _ _ (hQ.after st)
noncomputable def plainBase : Expr → Bool
  | .Call (.Name _ _) [] [] _ => false
  | _ => true
theorem zdm {o : Expr} {a : Str} {env : Env} {t : Sem Value} (h : plainBase o = true) : attributeBase o a env t = t := by
  cases o with
  | Call f as ks pos => cases f with
    | Name x p => cases as with
      | nil => cases ks with
        | nil => cases h
        | cons _ _ => rfl
      | cons _ _ => rfl
    | _ => rfl
  | _ => rfl
theorem zch {o : Expr} {name : Str} {apos pos : Pos} {es : List Expr} {env : Env} {A : Around} {s : Shared} {Q E : VP} (hb : plainBase o = true) (hl : (apos.endLine == pos.line) = true) (hn : es.length < 30)
    (hst : (backTo pos (starEach es env)).any (·.1) = false)
    (h : wpAny (model cx.prog cx.w) A (eval o env) (fun ov s₁ => wpAny (model cx.prog cx.w) A (getMethod ov name (do return (← importBound o env).getD true)) (fun fx s₂ => wpAny (model cx.prog cx.w) A (callWith pos fx.1 fx.2 (backTo pos (starEach es env)) []) Q E s₂) E s₁) E s) :
    wpAny (model cx.prog cx.w) A (eval (.Call (.Attribute o name apos) es [] pos) env) Q E s := by
  have hform : methodCallForm (es.length + ([] : List Keyword).length) (backTo pos (starEach es env)) [] = true := by
    unfold methodCallForm
    simp only [List.length_nil, Nat.add_zero, List.all_nil, Bool.and_true, List.isEmpty_nil, if_true, Bool.and_eq_true, decide_eq_true_eq]
    refine ⟨?_, hn⟩
    rw [List.all_eq_true]
    intro y hy
    have := List.any_eq_false.mp hst y hy
    simpa using this
  have hpos : methodCallPos true o env apos pos = pure pos := by unfold methodCallPos; simp [hl]
  show wpAny _ _ (do
    let ov ← attributeBase o name env (eval o env)
    standAt apos.atName
    methodCall o name apos pos env ov (es.length + ([] : List Keyword).length) (backTo pos (starEach es env)) (backToKw pos (keywordEach [] env))) Q E s
  rw [zdm hb]
  refine wb (wpAny_mono h (fun ov s₁ h₁ => wb (wpAny_standAt ?_)) fun _ _ e => e)
  show wpAny _ _ (methodCall o name apos pos env ov (es.length + ([] : List Keyword).length) (backTo pos (starEach es env)) []) Q E s₁
  unfold methodCall calleeOf
  rw [hform]
  refine wb (wpAny_holding (wpAny_mono h₁ (fun fx s₂ h₂ => ?_) fun _ _ e => e))
  rw [hpos]
  exact wb (wpAny_pure h₂)
theorem zbh {o : Expr} {name : Str} {id : String} {apos pos : Pos} {es : List Expr} {xo x : X} {op : Op} (hb : plainBase o = true) (hl : (apos.endLine == pos.line) = true) (hn : es.length < 30)
    (slot : PySem.Slot "str" name id) (ty : typeOf (.builtin id) = pure (.type "method_descriptor"))
    (h0 : Sound cx ε o xo) (h : SoundL cx ε es x false) (hs : ∀ d ds r, opF op (d :: ds) = some r → ∃ l, d = .str l) (ho : OpOK cx op (fun vs => call (.builtin id) vs)) : Sound cx ε (.Call (.Attribute o name apos) es [] pos) (.op op (.cons xo x)) := by
  refine Sound.ofE ?_ fun _ => rfl
  intro n cf A env F s ρ ad m cm H res he Q E hQ
  obtain ⟨rs, e1, e2⟩ := ev_op he
  obtain ⟨r0, rs', e3, e4, rfl⟩ := zax e1
  refine zch hb hl hn (zbf h) ?_
  refine h0.ev n cf A env F s ρ ad m cm H r0 e3 _ _ fun v F' s' st q => ?_
  obtain ⟨l, hl'⟩ := hs _ _ _ e2
  have qb := q.brep
  rw [hl'] at qb
  obtain ⟨t, rfl, p, z⟩ := qb.str_inv
  refine GM.of _ (typeIs_str _ _ _) slot ty (fun _ e => nomatch e) ?_
  refine Calls.callWith_builtin (zbf h) (zbu h (H.step st) e4 fun vs F'' s'' st' qs => ?_)
  exact ho n A F'' s'' (_ :: vs) _ res H.ok H.bud st'.wd (.cons (st'.brep st.wd q.brep) qs.brep) e2 _ _ (hQ.after (st.trans st'))
end
theorem zdr {α : Type} (n : Nat) (l : List α) : ((List.replicate n l.toArray).foldl (· ++ ·) #[]) = ((List.replicate n l).flatten).toArray := by
  have : ∀ (m : Nat) (acc : List α), ((List.replicate m l.toArray).foldl (· ++ ·) acc.toArray) = (acc ++ (List.replicate m l).flatten).toArray := by
    intro m
    induction m with
    | zero => intro acc; simp
    | succ m ih =>
      intro acc
      simp only [List.replicate_succ, List.foldl_cons, List.flatten_cons]
      rw [show acc.toArray ++ l.toArray = (acc ++ l).toArray by simp, ih]
      simp
  have := this n []
  simpa using this
section
variable {cx : XCx}
theorem mul_str {F : AP} {s : Shared} {A : Around} {x y : Value} {a : List Nat} {b : Int} (qa : BRep cx F s.heap x (.str a)) (qb : BRep cx F s.heap y (.int b)) (hb : small b = true) (hz : a.length * b.toNat ≤ lim) {Q E : VP}
    (h : ∀ t k, Q (.str ⟨(rep a b).toArray⟩ t) { s with toks := k }) : wpAny (model cx.prog cx.w) A (binaryOp .Mult x y) Q E s := by
  obtain ⟨t, rfl, p, z⟩ := qa.str_inv
  obtain ⟨u, rfl⟩ := qb.int_inv
  obtain ⟨b1, b2⟩ := zdE hb
  have hlen : (PySem.Str.mk a.toArray).length = a.length := List.size_toArray ..
  have b3 : b ≤ 2 ^ 63 - 1 := Int.le_trans b2 (by decide)
  refine SB.mul ⟨by rw [decide_eq_false (Int.not_lt.mpr (Int.le_trans (by decide) b1)), decide_eq_false (Int.not_le.mpr (Int.lt_of_le_of_lt b2 (by decide)))]; rfl, fun h1 _ h2 => ?_, fun h1 _ => ?_⟩ fun t' k => ?_
  · rw [hlen] at h2
    clear hz hlen qa qb p
    have hpos : 0 < b := by omega
    have h3 : 1000000 ≤ (2 ^ 63 - 1) / b := Int.le_ediv_of_mul_le hpos (Int.le_trans (Int.mul_le_mul_of_nonneg_left b2 (by decide)) (by decide))
    exact absurd (Int.lt_of_le_of_lt h3 h2) (Int.not_lt.mpr (Int.ofNat_le.mpr z))
  · rw [hlen]
    exact decide_eq_false (Nat.not_lt.mpr (zba hz))
  · have e : Txt.mul ⟨a.toArray⟩ b = ⟨(rep a b).toArray⟩ := by
      unfold Txt.mul rep
      split
      · rename_i h1
        rw [Int.toNat_of_nonpos (Int.lt_add_one_iff.mp h1)]; rfl
      · split
        · rename_i h1 h2
          rcases (Bool.or_eq_true _ _).mp h2 with h2 | h2
          · have := eq_of_beq h2
            subst this; exact congrArg PySem.Str.mk (by simp)
          · rw [hlen] at h2
            have := List.length_eq_zero_iff.mp (eq_of_beq h2)
            subst this; exact congrArg PySem.Str.mk (by simp)
        · show PySem.Str.mk _ = _
          rw [zdr]
    rw [e]
    exact h t' k
theorem rep_mem {α : Type} {a : List α} {b : Int} {c : α} (h : c ∈ rep a b) : c ∈ a := by
  obtain ⟨l, hl, hc⟩ := List.mem_flatten.mp h
  rw [(List.mem_replicate.mp hl).2] at hc
  exact hc
theorem zic {α : Type} (a : List α) (b : Int) : (rep a b).length = a.length * b.toNat := by
  unfold rep
  rw [List.length_flatten, List.map_replicate, List.sum_replicate_nat, Nat.mul_comm]
theorem zjU {F : AP} {s : Shared} {A : Around} {x y : Value} {a : List D} {b : Int} (w : Wd cx F s) (qa : BRep cx F s.heap x (.list a)) (qb : BRep cx F s.heap y (.int b)) (hb : small b = true) (hz : a.length * b.toNat ≤ lim) {Q E : VP}
    (h : ∀ vs : List Value, vs.length ≤ lim → RepL cx.T F s.heap vs (rep a b) → Q (.ref s.heap.objs.size) { s with heap := s.heap.push (lobj vs.toArray 0) }) : wpAny (model cx.prog cx.w) A (binaryOp .Mult x y) Q E s := by
  obtain ⟨l, vs, k, rfl, nx, g, z, ql⟩ := qa.list_inv w
  obtain ⟨u, rfl⟩ := qb.int_inv
  obtain ⟨b1, b2⟩ := zdE hb
  have hl : vs.length * b.toNat ≤ lim := ql.length ▸ hz
  have hsz : vs.toArray.size * b.toNat ≤ 2 ^ 24 := by rw [List.size_toArray]; exact Nat.le_trans hl (by decide)
  have e : (List.foldl (fun x1 x2 => x1 ++ x2) #[] (List.replicate (if vs.toArray.isEmpty = true then 0 else b.toNat) vs.toArray)) = (rep vs b).toArray := by
    unfold rep
    split
    · rename_i h1
      have : vs = [] := by simpa using h1
      subst this
      simp
    · rw [zdr]
  have := h (rep vs b) (zic vs b ▸ hl) (ql.rep _)
  rw [← e] at this
  clear qa qb ql hz h e
  refine wpAny_binaryOp_repeat_ref (T := "list") (U := "int") (by decide) ⟨_, g, rfl⟩ (fun s' => typeIs_int s' b u) noFill_list_mul PySem.F.fills_int_mul PySem.F.slot_int_rmul repeat_list PySem.F.slot_int_index.lookup
    (call_meets PySem.F.slot_int_rmul (typeIs_int s b u) PySem.F.entry_int_rmul (PySem.F.args_int_rmul_2 _ _) (int___rmul___int_list b u l vs.toArray k)
      ⟨g, rfl, ⟨_, g, rfl⟩, call_meets PySem.F.slot_list_mul ⟨_, g, rfl⟩ PySem.F.entry_list_mul (PySem.F.args_list_mul_2 _ _)
        (AutoListH.list___mul___list_int_3 l vs.toArray k b u (by simp [Builtin.List.listFitsIndex]; omega) (by omega) (by simp [Builtin.List.listTooLong, sizeLine]; omega))
        ⟨g, this⟩⟩)
inductive MulI : List D → R → Prop
  | i {a b : Int} : (small a || small b) = true → MulI [.int a, .int b] (.val (.int (a * b)))
  | s {a : List Nat} {b : Int} : small b = true → a.length * b.toNat ≤ lim → MulI [.str a, .int b] (.val (.str (rep a b)))
  | l {a : List D} {b : Int} : small b = true → a.length * b.toNat ≤ lim → MulI [.list a, .int b] (.own (rep a b))
theorem mul_inv {ds : List D} {r : R} (he : opMul ds = some r) : MulI ds r := by
  obtain ⟨a, b, rfl, he⟩ := zcC (show two _ ds = some r from he)
  obtain ⟨i, e, he⟩ := Option.bind_eq_some_iff.mp he
  cases zcw e
  cases a <;> try (cases he; done)
  · obtain ⟨h, rfl⟩ := zcb he
    exact .i h
  · obtain ⟨h, rfl⟩ := zcb he
    have h := (Bool.and_eq_true _ _).mp h
    exact .s h.1 (of_decide_eq_true h.2)
  · obtain ⟨h, rfl⟩ := zcb he
    have h := (Bool.and_eq_true _ _).mp h
    exact .l h.1 (of_decide_eq_true h.2)
theorem zkt : OpOK cx .mul (op2 (binaryOp .Mult)) := by
  intro n A F s vs ds r ok bud w q he Q E hQ
  cases mul_inv he with
  | i hs =>
    obtain ⟨x, y, rfl, qa, qb⟩ := q.two
    obtain ⟨t, rfl⟩ := qa.int_inv
    obtain ⟨u, rfl⟩ := qb.int_inv
    refine P.mul_int (hQ _ F _ ((Step.refl w).toks _) (.val (.int _ _))) ?_
    have hb : ∀ {i : Int}, small i = true → Builtin.Int.intBits i ≤ 64 := fun h => let ⟨h1, h2⟩ := zdE h; PySem.intBits_le_64 (Int.le_trans (by decide) h1) (Int.lt_of_le_of_lt h2 (by decide))
    rcases (Bool.or_eq_true _ _).mp hs with hs | hs
    · exact PySem.IntMulOk.of_left (hb hs)
    · exact PySem.IntMulOk.of_right (hb hs)
  | s hb hz =>
    obtain ⟨x, y, rfl, qa, qb⟩ := q.two
    obtain ⟨_, _, p, _⟩ := qa.str_inv
    exact mul_str qa qb hb hz fun t k => hQ _ F _ ((Step.refl w).toks k) (.val (.str t (fun c hc => p c (rep_mem hc)) (by rw [zic]; exact hz)))
  | l hb hz =>
    obtain ⟨x, y, rfl, qa, qb⟩ := q.two
    exact zjU w qa qb hb hz fun vs hl ql => hQ _ F _ (Step.push ok w _ _) (.pushOwn w hl ql)
inductive IsInv : D → D → Bool → Prop
  | none {d : D} {c : Bool} : noneB d = some c → IsInv d .none c
  | toks {i j : Nat} : i < 2 → j < 2 → IsInv (.tok i) (.tok j) (decide (i = j))
  | strTok (l : List Nat) (k : Nat) : IsInv (.str l) (.tok k) false
  | tokStr (l : List Nat) (k : Nat) : IsInv (.tok k) (.str l) false
  | noneTok (k : Nat) : IsInv .none (.tok k) false
theorem isD_inv {a b : D} {c : Bool} (h : isD a b = some c) : IsInv a b c := by
  cases b <;> try (cases h; done)
  · exact .none h
  · cases a <;> cases h
    exact .tokStr _ _
  · cases a with
    | none => cases h; exact .noneTok _
    | str => cases h; exact .strTok _ _
    | tok i => obtain ⟨⟨h1, h2⟩, rfl⟩ := zcb h; exact .toks h1 h2
    | _ => cases h
theorem zhT {F : AP} {h : Heap} {v : Value} {d : D} {c : Bool} (q : BRep cx F h v d) (e : noneB d = some c) : plainIs v .none = true ∧ (v == .none) = c := by
  cases q with
  | rep q => cases q <;> cases e <;> exact ⟨rfl, rfl⟩
  | own => cases e; exact ⟨rfl, rfl⟩
theorem zh0 {F : AP} {h : Heap} {v : Value} {k : Nat} (q : BRep cx F h v (.tok k)) (hk : k < 2) : ∃ n t, h.get? (cx.T k) = some (lobj #[.str ⟨(tokC k).toArray⟩ t] n) := by
  cases q with | rep q => cases q with | tok f => exact (f hk).2
theorem ziM (ok : CxOk cx) {F : AP} {s : Shared} {A : Around} {x y : Value} {a b : D} {c : Bool} (w : Wd cx F s) (qa : BRep cx F s.heap x a) (qb : BRep cx F s.heap y b) (hc : isD a b = some c) {Q : Bool → Shared → Prop} {E : VP} (h : Q c s) :
    wpAny (model cx.prog cx.w) A (isSame x y) Q E s := by
  cases isD_inv hc with
  | none e =>
    obtain ⟨e1, e2⟩ := zhT qa e
    rw [qb.none_inv]
    exact wpAny_isSame_plain e1 (by rw [e2]; exact h)
  | noneTok k => rw [qa.none_inv, qb.tok_inv]; exact wpAny_isSame_plain rfl h
  | strTok l k => obtain ⟨t, rfl, _, _⟩ := qa.str_inv; rw [qb.tok_inv]; exact wpAny_isSame_plain rfl h
  | tokStr l k => obtain ⟨t, rfl, _, _⟩ := qb.str_inv; rw [qa.tok_inv]; exact wpAny_isSame_plain rfl h
  | @toks i j h1 h2 =>
    obtain ⟨_, _, g⟩ := zh0 qa h1
    obtain ⟨_, _, g'⟩ := zh0 qb h2
    rw [qa.tok_inv, qb.tok_inv]
    by_cases e : i = j
    · subst e
      rw [decide_eq_true rfl] at h
      exact wpAny_isSame_ref_self h
    · rw [decide_eq_false e] at h
      exact wpAny_isSame_ref_other (fun e' => e (ok.tinj _ _ e')) g g' (by show Value.type "list" ≠ Value.type "tuple"; decide) h
theorem op_is : OpOK cx .is_ (op2 (compareOp .Is)) := by
  intro n A F s vs ds r ok bud w q he
  refine zeG w q he fun x y a b c qa qb hc Q E h => ?_
  show wpAny _ A (do return .bool (← isSame x y)) Q E s
  exact wb (ziM ok w qa qb hc (wpAny_pure (h s.toks)))
theorem zjF : OpOK cx .isnot (op2 (compareOp .IsNot)) := by
  intro n A F s vs ds r ok bud w q he
  refine zeG w q he fun x y a b c qa qb hc Q E h => ?_
  obtain ⟨c', hc', rfl⟩ := Option.map_eq_some_iff.mp hc
  show wpAny _ A (do return .bool (!(← isSame x y))) Q E s
  exact wb (ziM ok w qa qb hc' (wpAny_pure (h s.toks)))
theorem zck : OpOK cx .len (fun vs => call (.builtin "len") vs) := by
  intro n A F s vs ds r ok bud w q he Q E hQ
  replace he : opLen ds = some r := he
  rcases ds with _ | ⟨a0, t0⟩
  · cases he
  cases a0 <;> try (cases he; done)
  all_goals
    rcases t0 with _ | ⟨a1, t1⟩ <;> cases he
  · obtain ⟨x, rfl, qa⟩ := q.one
    obtain ⟨t, rfl, p, z⟩ := qa.str_inv
    rename_i l
    have e : (PySem.Str.mk l.toArray).length = l.length := by show l.toArray.size = _; rw [List.size_toArray]
    refine P.len_str (by rw [e]; have := sz_lt z; omega) ?_
    rw [e]
    exact hQ _ F _ ((Step.refl w).toks _) (.val (.int _ _))
  · obtain ⟨x, rfl, qa⟩ := q.one
    obtain ⟨a, vs, k, rfl, nx, g, z, ql⟩ := qa.list_inv w
    refine PyProof.Rows.len_list (zbJ g) (by rw [List.size_toArray]; exact sz_lt z) ?_
    rw [List.size_toArray, ql.length]
    exact hQ _ F _ ((Step.refl w).toks _) (.val (.int _ _))
  · obtain ⟨x, rfl, qa⟩ := q.one
    obtain ⟨a, vs, k, rfl, f, g, z, ql⟩ := qa.tup_inv
    refine PyProof.Rows.len_tuple (ze5 g) (by rw [List.size_toArray]; exact sz_lt z) ?_
    rw [List.size_toArray, ql.length]
    exact hQ _ F _ ((Step.refl w).toks _) (.val (.int _ _))
theorem abs_ite {i : Int} : (if i < 0 then -i else i) = (i.natAbs : Int) := by
  split
  · rename_i h; exact (Int.ofNat_natAbs_of_nonpos (Int.le_of_lt h)).symm
  · rename_i h; exact (Int.natAbs_of_nonneg (Int.not_lt.mp h)).symm
theorem op_abs : OpOK cx .abs (fun vs => call (.builtin "abs") vs) := by
  intro n A F s vs ds r ok bud w q he Q E hQ
  delta opF at he; dsimp only at he
  unfold opAbs at he
  split at he <;> cases he
  rename_i i
  obtain ⟨x, rfl, qa⟩ := q.one
  obtain ⟨t, rfl⟩ := qa.int_inv
  refine PyProof.Rows.call_abs_int fun u tk => ?_
  have e : (if i < 0 then -i else i) = (i.natAbs : Int) := abs_ite
  rw [e]
  exact hQ _ F _ ((Step.refl w).toks _) (.val (.int _ _))
theorem zhg {F : AP} {h : Heap} : ∀ {l : List D} {is : List Int} {vs : List Value}, toInts l = some is → RepL cx.T F h vs l → ∀ (i : Nat) v, vs[i]? = some v → ∃ t, v = .int (is.getD i 0) t := by
  intro l
  induction l with
  | nil => intro is vs e q i v hv; cases q; cases hv
  | cons d r ih =>
    intro is vs e q
    cases d <;> try (cases e; done)
    obtain ⟨is', e', rfl⟩ := Option.map_eq_some_iff.mp (show (toInts r).map _ = some is from e)
    cases q with
    | cons a b =>
      obtain ⟨t, e2⟩ := (BRep.rep (cx := cx) a).int_inv
      intro i v hv
      cases i with
      | zero => exact ⟨t, (Option.some.inj hv).symm.trans e2⟩
      | succ i => exact ih e' b i v hv
theorem zcU : ∀ {l : List D} {is : List Int}, toInts l = some is → is.length = l.length
  | [], is, e => by cases e; rfl
  | d :: r, is, e => by
    cases d <;> try (cases e; done)
    obtain ⟨is', e', rfl⟩ := Option.map_eq_some_iff.mp (show (toInts r).map _ = some is from e)
    simp [zcU e']
theorem op_sum : OpOK cx .sum (fun vs => call (.builtin "sum") vs) := by
  intro n A F s vs ds r ok bud w q he Q E hQ
  delta opF at he; dsimp only at he
  unfold opSum at he
  split at he
  · rename_i l
    obtain ⟨is, e1, e2⟩ := Option.map_eq_some_iff.mp he
    cases e2
    obtain ⟨x, rfl, qa⟩ := q.one
    obtain ⟨a, vs, k, rfl, nx, g, z, ql⟩ := qa.list_inv w
    refine call_sum_walkG (wpAny_pyIter_list (zbJ g) ?_)
    have hne : a ≠ s.heap.objs.size := Nat.ne_of_lt (Heap.lt_size g)
    refine ⟨s.heap.objs.size, _, _, _, _, _, fun i => is.getD i 0, rfl, Walks.list (A := A.in1) bud.hd _ a hne vs.toArray, ⟨⟨_, Heap.get?_push_size _ rfl, rfl, rfl⟩, zbJ (Heap.get?_push_of_some _ g)⟩, ?_, ?_, ?_⟩
    · intro b hb
      simp only [List.mem_cons, List.not_mem_nil, or_false] at hb
      rw [Heap.size_push]
      rcases hb with rfl | rfl
      · exact Nat.lt_succ_self _
      · exact Nat.lt_succ_of_lt (Heap.lt_size g)
    · intro i v hv
      exact zhg e1 ql i v (by simpa using hv)
    · intro h' tk t' hk
      have e : preSum (fun i => is.getD i 0) vs.toArray.size = is.sum := by
        rw [preSum_getD, List.size_toArray, ql.length, ← zcU e1, List.take_length]
      rw [e]
      refine hQ _ F _ (Step.grown ok w _ fun b o hb => ?_) (.val (.int _ _))
      refine hk b o ?_ (Heap.get?_push_of_some _ hb)
      simp only [List.mem_cons, List.not_mem_nil, or_false]
      rintro rfl
      rw [zbe] at hb; cases hb
  · cases he
end
theorem zbW (l : List Nat) : (PySem.Str.mk l.toArray).length = l.length := by show l.toArray.size = _; rw [List.size_toArray]
theorem zhl (x : PySem.Str) (lo hi : Nat) : (∀ c ∈ (strSub x lo hi).cps.toList, c ∈ x.cps.toList) ∧ (strSub x lo hi).cps.size ≤ x.cps.size := by
  unfold strSub
  constructor
  · intro c hc
    simp only [Array.mem_toList_iff] at hc ⊢
    obtain ⟨i, hi, e⟩ := Array.mem_iff_getElem.mp hc
    rw [Array.getElem_extract] at e
    exact Array.mem_iff_getElem.mpr ⟨_, _, e⟩
  · simp only [Array.size_extract]; exact Nat.le_trans (Nat.sub_le _ _) (Nat.min_le_right _ _)
section
variable {cx : XCx}
theorem str_rep {F : AP} {h : Heap} {l : List Nat} (p : ∀ c ∈ l, c < 0x110000) (z : l.length ≤ lim) {y : PySem.Str} (t : Tok) (h1 : ∀ c ∈ y.cps.toList, c ∈ l) (h2 : y.cps.size ≤ l.length) : Rep cx.T F h (.str y t) (.str y.cps.toList) :=
  Rep.str (l := y.cps.toList) t (fun c hc => p c (h1 c hc)) (by rw [Array.length_toList]; exact Nat.le_trans h2 z)
theorem zeO {f : PySem.Str → PySem.Str → R} {vs : List Value} {ds : List D} {F : AP} {s : Shared} {A : Around} {r : R} {id : String} (w : Wd cx F s) (q : BRepL cx F s.heap vs ds) (he : opStr2 f ds = some r)
    (h : ∀ (a b : List Nat) (t u : Tok), (∀ c ∈ a, c < 0x110000) → a.length ≤ lim → ∀ (Q E : VP), (∀ v k, RepR cx F s.heap s.heap v (f ⟨a.toArray⟩ ⟨b.toArray⟩) → Q v { s with toks := k }) →
      wpAny (model cx.prog cx.w) A (call (.builtin id) [.str ⟨a.toArray⟩ t, .str ⟨b.toArray⟩ u]) Q E s) : Ev cx A F s (call (.builtin id) vs) r := by
  intro Q E hQ
  obtain ⟨a, b, rfl, he⟩ := zcC (show two _ ds = some r from he)
  obtain ⟨a, e, he⟩ := Option.bind_eq_some_iff.mp he
  obtain ⟨b, e2, he⟩ := Option.bind_eq_some_iff.mp he
  cases zbU e
  cases zbU e2
  cases he
  obtain ⟨x, y, rfl, qa, qb⟩ := q.two
  obtain ⟨t, rfl, p, z⟩ := qa.str_inv
  obtain ⟨u, rfl, _, _⟩ := qb.str_inv
  exact h _ _ t u p z Q E fun v k rv => hQ v F _ ((Step.refl w).toks k) rv
theorem zjE : OpOK cx .rfind (fun vs => call (.builtin "str.rfind") vs) := by
  intro n A F s vs ds r ok bud w q he
  delta opF at he; dsimp only at he
  exact zeO w q he fun a b t u p z Q E h => SC.rfind (h _ _ (.val (.int _ _)))
theorem zeW : OpOK cx .startswith (fun vs => call (.builtin "str.startswith") vs) := by
  intro n A F s vs ds r ok bud w q he
  delta opF at he; dsimp only at he
  exact zeO w q he fun a b t u p z Q E h => SC.startswith (h _ s.toks (.val (.bool _)))
theorem zgk : OpOK cx .endswith (fun vs => call (.builtin "str.endswith") vs) := by
  intro n A F s vs ds r ok bud w q he
  delta opF at he; dsimp only at he
  exact zeO w q he fun a b t u p z Q E h => SC.endswith (h _ s.toks (.val (.bool _)))
theorem zf7 (g : Nat → Bool) (l r : Bool) (x : PySem.Str) : (∀ c ∈ (Txt.stripBy g l r x).cps.toList, c ∈ x.cps.toList) ∧ (Txt.stripBy g l r x).cps.size ≤ x.cps.size := by
  unfold Txt.stripBy
  split
  · exact ⟨fun _ h => h, Nat.le_refl _⟩
  · exact zhl _ _ _
theorem zil : OpOK cx .rstrip (fun vs => call (.builtin "str.rstrip") vs) := by
  intro n A F s vs ds r ok bud w q he
  delta opF at he; dsimp only at he
  refine zeO w q he fun a b t u p z Q E h => SC.rstripChars (fun t' k => h _ k (.val ?_)) (by rw [zbW]; exact zba z)
  have := zf7 (PySem.Str.mk b.toArray).cps.contains false true ⟨a.toArray⟩
  exact str_rep p z t' this.1 (by have h2 := this.2; rw [show (PySem.Str.mk a.toArray).cps.size = a.length from List.size_toArray ..] at h2; exact h2)
theorem zjI : OpOK cx .find4 (fun vs => call (.builtin "str.find") vs) := by
  intro n A F s vs ds r ok bud w q he Q E hQ
  replace he : opFind4 ds = some r := he
  rcases ds with _ | ⟨a0, t0⟩
  · cases he
  cases a0 <;> try (cases he; done)
  all_goals
    rcases t0 with _ | ⟨a1, t1⟩
    · cases he
    cases a1 <;> try (cases he; done)
    rcases t1 with _ | ⟨a2, t2⟩
    · cases he
    cases a2 <;> try (cases he; done)
    rcases t2 with _ | ⟨a3, t3⟩
    · cases he
    cases a3 <;> try (cases he; done)
    rcases t3 with _ | ⟨a4, t4⟩ <;> try (cases he; done)
  · rename_i a b i j
    replace he : (if small i ∧ small j then some (R.val (.int (match Builtin.Str.occurrences ⟨a.toArray⟩ ⟨b.toArray⟩ (fromIndex a.length i) (min (fromIndex a.length j) a.length) 1 with | k :: _ => (k : Int) | [] => -1))) else none) = some r := he
    split at he <;> cases he
    cases q with | cons q1 q => cases q with | cons q2 q => cases q with | cons q3 q => cases q with | cons q4 q =>
    cases q
    obtain ⟨t, rfl, _, _⟩ := q1.str_inv
    obtain ⟨u, rfl, _, _⟩ := q2.str_inv
    obtain ⟨v, rfl⟩ := q3.int_inv
    obtain ⟨v', rfl⟩ := q4.int_inv
    refine call_gives PySem.F.slot_str_find (typeIs_str _ _ _) PySem.F.entry_str_find (PySem.F.args_str_find_4 _ _ _ _) (m := .int (match occurrences ⟨a.toArray⟩ ⟨b.toArray⟩ (fromIndex a.length i) (min (fromIndex a.length j) a.length) 1 with | k :: _ => (k : Int) | [] => -1)) ?_ ?_
    · show Gives (match occurrences ⟨a.toArray⟩ ⟨b.toArray⟩ (fromIndex (PySem.Str.mk a.toArray).length i) (min (fromIndex (PySem.Str.mk a.toArray).length j) (PySem.Str.mk a.toArray).length) 1 with | k :: _ => retInt k | [] => (do rule "str.find.not-found"; retInt (-1))) _
      rw [zbW]
      cases occurrences ⟨a.toArray⟩ ⟨b.toArray⟩ (fromIndex a.length i) (min (fromIndex a.length j) a.length) 1 with
      | nil => exact .rule (.of_eq rfl)
      | cons k _ => exact .of_eq rfl
    · exact hQ _ F _ ((Step.refl w).toks _) (.val (.int _ _))
theorem zhu : OpOK cx .replace (fun vs => call (.builtin "str.replace") vs) := by
  intro n A F s vs ds r ok bud w q he Q E hQ
  obtain ⟨a, b, c, rfl, he⟩ := zeN (show opReplace ds = some r from he)
  obtain ⟨hocc, rfl⟩ := zcb he
  · skip
    cases q with | cons q1 q => cases q with | cons q2 q => cases q with | cons q3 q =>
    cases q
    obtain ⟨t, rfl, p, z⟩ := q1.str_inv
    obtain ⟨u, rfl, _, _⟩ := q2.str_inv
    obtain ⟨v, rfl, _, _⟩ := q3.str_inv
    have e : ((occurrences ⟨a.toArray⟩ ⟨b.toArray⟩ 0 (PySem.Str.mk a.toArray).length ((PySem.Str.mk a.toArray).length + 1)).isEmpty || ((PySem.Str.mk b.toArray).length == 0 && (PySem.Str.mk c.toArray).length == 0)) = true := by
      rw [zbW, hocc]; rfl
    obtain ⟨mc, n1, n2⟩ := ok.nb
    refine call_givesAt PySem.F.slot_str_replace (typeIs_str _ _ _) PySem.F.entry_str_replace (PySem.F.args_str_replace_3 _ _ _) (gives_str_replace2 _ _ _ t u v fun h => by rw [e] at h; cases h) ⟨mc, n1.at' fun o g => w.base _ o g ok.limx, n2⟩ ?_
    rw [if_pos e]
    exact hQ _ F _ (Step.refl w) (.val (.str t p z))
end
section
variable {cx : XCx}
theorem strs_of {F : AP} {h : Heap} : ∀ {l : List D} {ls : List (List Nat)} {vs : List Value}, toStrs l = some ls → RepL cx.T F h vs l →
    ∃ ps : List (PySem.Str × Tok), vs = strValues ps ∧ ps.map (·.1) = ls.map (fun x => PySem.Str.mk x.toArray) ∧ (∀ x ∈ ls, (∀ c ∈ x, c < 0x110000) ∧ x.length ≤ lim) := by
  intro l
  induction l with
  | nil => intro ls vs e q; cases q; cases e; exact ⟨[], rfl, rfl, fun _ h => nomatch h⟩
  | cons d r ih =>
    intro ls vs e q
    cases d <;> try (cases e; done)
    rename_i x
    obtain ⟨ls', e', rfl⟩ := Option.map_eq_some_iff.mp (show (toStrs r).map _ = some ls from e)
    cases q with
    | cons a b =>
      obtain ⟨ps, rfl, h2, h3⟩ := ih e' b
      cases a with
      | str t p z => exact ⟨(⟨x.toArray⟩, t) :: ps, rfl, congrArg (_ :: ·) h2, List.forall_mem_cons.mpr ⟨⟨p, z⟩, h3⟩⟩
theorem zeC (s : List Nat) : ∀ (ls : List (List Nat)) (acc : List Nat), ((ls.map fun x => PySem.Str.mk x.toArray).foldl (fun (acc : Array Nat) p => acc ++ (PySem.Str.mk s.toArray).cps ++ p.cps) acc.toArray) = (acc ++ (ls.map fun x => s ++ x).flatten).toArray
  | [], acc => by simp
  | x :: r, acc => by
    rw [List.map_cons, List.foldl_cons]
    have e : (acc.toArray ++ (PySem.Str.mk s.toArray).cps ++ (PySem.Str.mk x.toArray).cps) = (acc ++ s ++ x).toArray := by simp
    rw [e, zeC s r]
    simp
theorem zcv (s a : List Nat) : ∀ r : List (List Nat), joinL s (a :: r) = a ++ (r.map fun x => s ++ x).flatten
  | [] => by simp [joinL]
  | b :: r => by
    rw [joinL, zcv s b r]
    · simp
    · intro h; cases h
theorem zdf (s : List Nat) (ls : List (List Nat)) : glued ⟨s.toArray⟩ (ls.map fun x => PySem.Str.mk x.toArray) = ⟨(joinL s ls).toArray⟩ := by
  unfold glued
  cases ls with
  | nil => rfl
  | cons a r =>
    simp only [List.map_cons, List.drop_succ_cons, List.drop_zero, List.headD_cons]
    have := zeC s r a
    simp only [zcv]
    exact congrArg PySem.Str.mk this
theorem zfM {s : List Nat} {c : Nat} : ∀ {ls : List (List Nat)}, c ∈ joinL s ls → c ∈ s ∨ ∃ x ∈ ls, c ∈ x
  | [], h => by simp [joinL] at h
  | a :: r, h => by
    rw [zcv, List.mem_append] at h
    rcases h with h | h
    · exact .inr ⟨a, List.mem_cons_self, h⟩
    · simp only [List.mem_flatten, List.mem_map] at h
      obtain ⟨l, ⟨x, hx, rfl⟩, hc⟩ := h
      rcases List.mem_append.mp hc with h | h
      · exact .inl h
      · exact .inr ⟨x, List.mem_cons_of_mem _ hx, h⟩
theorem ze2 (s : PySem.Str) : ∀ (xs : List PySem.Str) (k : Nat), xs.toArray.foldl (fun n x => n + x.length + s.length) k = k + (xs.map fun x => x.length + s.length).sum := by
  intro xs
  induction xs with
  | nil => intro k; simp
  | cons x r ih =>
    intro k
    have := ih (k + x.length + s.length)
    simp only [List.foldl_toArray, List.foldl_cons, List.map_cons, List.sum_cons] at this ⊢
    rw [this, Nat.add_assoc k, Nat.add_assoc k]
theorem zdq (s : List Nat) (a : List Nat) (r : List (List Nat)) : (joinL s (a :: r)).length = a.length + (r.map fun x => s.length + x.length).sum := by
  rw [zcv, List.length_append, List.length_flatten, List.map_map]
  congr 2
  apply List.map_congr_left
  intro x _
  simp
theorem ziJ {a s r : Nat} (hz : a + r ≤ 1000000) (z : s ≤ 1000000) : ¬ (a + s + r > 16777216) := by omega
theorem op_join : OpOK cx .join (fun vs => call (.builtin "str.join") vs) := by
  intro n A F s vs ds r ok bud w q he Q E hQ
  delta opF at he; dsimp only at he
  unfold opJoin at he
  split at he
  · rename_i a l
    split at he
    · rename_i ls e1
      split at he <;> cases he
      rename_i hz
      obtain ⟨x, y, rfl, qa, qb⟩ := q.two
      obtain ⟨t, rfl, p, z⟩ := qa.str_inv
      obtain ⟨D, vs, k, rfl, nx, g, zl, ql⟩ := qb.list_inv w
      obtain ⟨ps, rfl, h2, h3⟩ := strs_of e1 ql
      refine SC.join (l := ps) (texts := ls.map fun x => PySem.Str.mk x.toArray) (zbJ g) h2 ?_ fun t' k => ?_
      · unfold JoinOk tooLong
        rw [ze2, Nat.zero_add, List.map_map]
        simp only [Bool.not_eq_true', decide_eq_false_iff_not]
        rw [sizeLine_eq]
        unfold lim at hz z
        cases ls with
        | nil => simp
        | cons b r =>
          rw [zdq] at hz
          simp only [List.map_cons, List.sum_cons, Function.comp, zbW]
          have e : (List.map ((fun x => x.length + a.length) ∘ fun x => PySem.Str.mk x.toArray) r).sum = (r.map fun x => a.length + x.length).sum := by
            congr 1
            apply List.map_congr_left
            intro x _
            show (PySem.Str.mk x.toArray).length + a.length = _
            rw [zbW, Nat.add_comm]
          rw [e]
          exact ziJ hz z
      · unfold Txt.join
        rw [zdf]
        refine hQ _ F _ ((Step.refl w).toks k) (.val (.str t' (fun c hc => ?_) hz))
        rcases zfM hc with hc | ⟨x, hx, hc⟩
        · exact p c hc
        · exact (h3 x hx).1 c hc
    · cases he
  · cases he
theorem op_tyOf : OpOK cx .tyOf (fun vs => call (.type "type") vs) := by
  intro n A F s vs ds r ok bud w q he Q E hQ
  delta opF at he; dsimp only at he
  rcases ds with _ | ⟨d, _ | ⟨c, t⟩⟩
  · cases he
  · replace he : (tyD d).map (fun n => R.val (.ty n)) = some r := he
    obtain ⟨x, rfl, qa⟩ := q.one
    obtain ⟨T, e1, e2⟩ := Option.map_eq_some_iff.mp he
    cases e2
    have key : s.TypeIs x T ∧ (Value.type T == Value.type "builtin_function_or_method") = false := by
      cases d <;> cases e1
      · rw [qa.bool_inv]; exact ⟨rfl, by decide⟩
      · obtain ⟨t, rfl⟩ := qa.int_inv; exact ⟨typeIs_int s _ _, by decide⟩
      · obtain ⟨t, rfl, _, _⟩ := qa.str_inv; exact ⟨typeIs_str s _ _, by decide⟩
      · obtain ⟨a, vs, n, rfl, nx, g, _, _⟩ := qa.list_inv w; exact ⟨⟨_, g, rfl⟩, by decide⟩
      · obtain ⟨a, vs, n, rfl, f, g, _, _⟩ := qa.tup_inv; exact ⟨⟨_, g, rfl⟩, by decide⟩
    exact call_type_of key.1 key.2 (hQ _ F _ (Step.refl w) (.val (.ty _)))
  · cases he
theorem RepL.tys {T : NAd} {F : AP} {h : Heap} : ∀ {ns : List String} {vs : List Value}, RepL T F h vs (ns.map .ty) → vs = ns.map .type
  | [], _, .nil => rfl
  | a :: ns, _, .cons q r => by cases q; rw [RepL.tys (ns := ns) r]; rfl
theorem zf3 : ∀ {l : List D} {ns : List String}, tyL l = some ns → l = ns.map .ty
  | [], _, h => by cases h; rfl
  | d :: r, ns, h => by
    cases d <;> try (cases h; done)
    obtain ⟨ns', e, rfl⟩ := Option.map_eq_some_iff.mp (show (tyL r).map _ = some ns from h)
    rw [zf3 e]; rfl
theorem zgG {d : D} {b : Bool} (h : strB d = some b) : (∃ l, d = .str l ∧ b = true) ∨ ∃ l, d = .list l ∧ b = false := by
  cases d <;> cases h
  · exact .inl ⟨_, rfl, rfl⟩
  · exact .inr ⟨_, rfl, rfl⟩
inductive IsInstI : List D → R → Prop
  | s1 (l : List Nat) : IsInstI [.str l, .ty "str"] (.val (.bool true))
  | s2 (l : List Nat) : IsInstI [.str l, .ty "bytes"] (.val (.bool false))
  | s3 (l : List Nat) : IsInstI [.str l, .tup [.ty "list", .ty "tuple"]] (.val (.bool false))
  | s4 (l : List D) : IsInstI [.list l, .tup [.ty "list", .ty "tuple"]] (.val (.bool true))
theorem zhE {ds : List D} {r : R} (he : opIsInst ds = some r) : IsInstI ds r := by
  rcases ds with _ | ⟨a, _ | ⟨b, t⟩⟩
  · cases he
  · cases he
  cases b <;> try (cases he; done)
  · rename_i l
    rcases t with _ | ⟨z, t⟩ <;> try (cases he; done)
    by_cases q : tyL l = some ["list", "tuple"]
    · replace he := (if_pos q).symm.trans he
      obtain ⟨b, e, rfl⟩ := Option.map_eq_some_iff.mp he
      cases zf3 q
      rcases zgG e with ⟨l, rfl, rfl⟩ | ⟨l, rfl, rfl⟩
      · exact .s3 _
      · exact .s4 _
    · cases (if_neg q).symm.trans he
  · rename_i n
    rcases t with _ | ⟨z, t⟩ <;> try (cases he; done)
    by_cases q : strB a = some true
    · replace he := (if_pos q).symm.trans he
      rcases zgG q with ⟨l, rfl, _⟩ | ⟨l, _, e⟩
      · by_cases q : n = "str"
        · cases (if_pos q).symm.trans he; subst q; exact .s1 _
        · obtain ⟨rfl, rfl⟩ := zcb ((if_neg q).symm.trans he)
          exact .s2 _
      · cases e
    · cases (if_neg q).symm.trans he
theorem zfB : OpOK cx .isInst (fun vs => call (.builtin "isinstance") vs) := by
  intro n A F s vs ds r ok bud w q he Q E hQ
  cases zhE (show opIsInst ds = some r from he) with
  | s1 l =>
    obtain ⟨x, y, rfl, qa, qb⟩ := q.two
    obtain ⟨t, rfl, _, _⟩ := qa.str_inv
    rw [qb.ty_inv]
    exact IsiPair.str_str (hQ _ F _ (Step.refl w) (.val (.bool _)))
  | s2 l =>
    obtain ⟨x, y, rfl, qa, qb⟩ := q.two
    obtain ⟨t, rfl, _, _⟩ := qa.str_inv
    rw [qb.ty_inv]
    exact IsiPair.str_bytes (hQ _ F _ ((Step.refl w).toks _) (.val (.bool _)))
  | s3 l =>
    obtain ⟨x, y, rfl, qa, qb⟩ := q.two
    obtain ⟨t, rfl, _, _⟩ := qa.str_inv
    obtain ⟨a, vs, k, rfl, f, g, z, q3⟩ := qb.tup_inv
    cases q3.tys (ns := ["list", "tuple"])
    exact zfX g fun tk => hQ _ F _ ((Step.refl w).toks _) (.val (.bool _))
  | s4 l =>
    obtain ⟨x, y, rfl, qa, qb⟩ := q.two
    obtain ⟨l, ws, j, rfl, nx, gl, _, _⟩ := qa.list_inv w
    obtain ⟨a, vs, k, rfl, f, g, z, q3⟩ := qb.tup_inv
    cases q3.tys (ns := ["list", "tuple"])
    exact zfd gl g fun tk => hQ _ F _ ((Step.refl w).toks _) (.val (.bool _))
theorem ziO {ds : List D} {r : R} (he : opIsSub ds = some r) : ds = [.ty "str", .tup [.ty "str", .ty "bytes"]] ∧ r = .val (.bool true) := by
  rcases ds with _ | ⟨a, _ | ⟨b, t⟩⟩
  · cases he
  · cases a <;> cases he
  cases a <;> try (cases he; done)
  cases b <;> try (cases he; done)
  rcases t with _ | ⟨z, t⟩ <;> try (cases he; done)
  obtain ⟨⟨rfl, q⟩, rfl⟩ := zcb he
  rw [zf3 q]
  exact ⟨rfl, rfl⟩
theorem zjG : OpOK cx .isSub (fun vs => call (.builtin "issubclass") vs) := by
  intro n A F s vs ds r ok bud w q he Q E hQ
  obtain ⟨rfl, rfl⟩ := ziO (show opIsSub ds = some r from he)
  obtain ⟨x, y, rfl, qa, qb⟩ := q.two
  rw [qa.ty_inv]
  obtain ⟨a, vs, k, rfl, f, g, z, q3⟩ := qb.tup_inv
  cases q3.tys (ns := ["str", "bytes"])
  exact zdA g fun tk => hQ _ F _ ((Step.refl w).toks _) (.val (.bool _))
end
noncomputable def Mut (env : Env) (ρ : List Slot) (ad : NAd) (a : Addr) : Prop :=
  a = env.locals ∨ (∃ n, env.cells.lookup n = some a) ∨ ∃ i l, slotAt ρ i = .own l ∧ a = ad i
set_option genInjectivity false in
structure ScOK (ε : Sc) : Prop where
  inj : ∀ x y i, ε.vars.lookup x = some i → ε.vars.lookup y = some i → x = y
set_option genInjectivity false in
structure Frm (cx : XCx) (ε : Sc) (env : Env) (F : AP) (s : Shared) (ρ : List Slot) (ad : NAd) (m cm : SV) : Prop where
  en : EnvOK cx ε env F s.heap ρ ad m cm
  lf : ¬ F env.locals
  cf : ∀ n c, env.cells.lookup n = some c → ¬ F c ∧ c ≠ env.locals
  cinj : ∀ n n' c, env.cells.lookup n = some c → env.cells.lookup n' = some c → n = n'
  oinj : ∀ i j l l', slotAt ρ i = .own l → slotAt ρ j = .own l' → ad i = ad j → i = j
  own : ∀ i l, slotAt ρ i = .own l → ¬ F (ad i) ∧ ¬ cx.X (ad i) ∧ (∃ o, s.heap.get? (ad i) = some o) ∧ ad i ≠ env.locals ∧ ∀ n, env.cells.lookup n ≠ some (ad i)
set_option genInjectivity false in
structure StepS (cx : XCx) (env : Env) (F : AP) (s : Shared) (ρ : List Slot) (ad : NAd) (F' : AP) (s' : Shared) (ρ' : List Slot) (ad' : NAd) : Prop where
  sub : ∀ a, F a → F' a
  new : ∀ a, F' a → F a ∨ s.heap.get? a = none ∨ Mut env ρ ad a
  keep : ∀ a o, s.heap.get? a = some o → ¬ cx.X a → ¬ Mut env ρ ad a → s'.heap.get? a = some o
  os : s'.os = s.os
  wd : Wd cx F' s'
  mu : ∀ a, Mut env ρ' ad' a → Mut env ρ ad a ∨ s.heap.get? a = none
theorem zbn (ρ : List Slot) (i : Nat) (sl : Slot) (j : Nat) : slotAt (ρ.set i sl) j = if j = i then (if i < ρ.length then sl else .unset) else slotAt ρ j := by
  unfold slotAt
  simp only [List.getD_eq_getElem?_getD, List.getElem?_set]
  by_cases h : i = j
  · subst h
    simp only [if_true]
    split <;> rfl
  · simp only [if_neg h, if_neg (Ne.symm h)]
theorem zcu {ρ : List Slot} {i : Nat} {l : List D} (h : ownAt ρ i = some l) : slotAt ρ i = .own l ∧ i < ρ.length ∧ dSlot i = false := by
  unfold ownAt at h
  split at h
  · rename_i l' e
    by_cases hd : dSlot i = true
    · rw [if_pos hd] at h; cases h
    rw [if_neg hd] at h
    cases h
    refine ⟨by unfold slotAt; simp [List.getD, e], ?_, by simpa using hd⟩
    rcases Nat.lt_or_ge i ρ.length with q | q
    · exact q
    · rw [List.getElem?_eq_none q] at e; cases e
  · cases h
section
variable {cx : XCx} {ε : Sc} {env : Env} {F F' F'' : AP} {s s' s'' : Shared} {ρ ρ' ρ'' : List Slot} {ad ad' ad'' : NAd} {m cm : SV}
theorem Frm.isSome (f : Frm cx ε env F s ρ ad m cm) {a : Addr} (h : Mut env ρ ad a) : ∃ o, s.heap.get? a = some o := by
  rcases h with rfl | ⟨n, hn⟩ | ⟨i, l, hi, rfl⟩
  · obtain ⟨o, _, _, e, _⟩ := f.en.ns; exact ⟨o, e⟩
  · obtain ⟨o, e, _⟩ := f.en.cells n a hn; exact ⟨o, e⟩
  · exact (f.own i l hi).2.2.1
theorem Frm.notF (f : Frm cx ε env F s ρ ad m cm) {a : Addr} (h : Mut env ρ ad a) : ¬ F a ∧ ¬ cx.X a := by
  rcases h with rfl | ⟨n, hn⟩ | ⟨i, l, hi, rfl⟩
  · exact ⟨f.lf, f.en.lx⟩
  · exact ⟨(f.cf n a hn).1, f.en.cxx n a hn⟩
  · exact ⟨(f.own i l hi).1, (f.own i l hi).2.1⟩
theorem StepS.refl (w : Wd cx F s) : StepS cx env F s ρ ad F s ρ ad := ⟨fun _ h => h, fun _ h => .inl h, fun _ _ e _ _ => e, rfl, w, fun _ h => .inl h⟩
theorem StepS.trans (x : StepS cx env F s ρ ad F' s' ρ' ad') (y : StepS cx env F' s' ρ' ad' F'' s'' ρ'' ad'') : StepS cx env F s ρ ad F'' s'' ρ'' ad'' := by
  have back : ∀ a, ¬ cx.X a → s'.heap.get? a = none → Mut env ρ ad a ∨ s.heap.get? a = none := fun a nx h => by
    by_cases hm : Mut env ρ ad a
    · exact .inl hm
    · right
      cases e : s.heap.get? a with
      | none => rfl
      | some o => rw [x.keep a o e nx hm] at h; cases h
  refine ⟨fun a h => y.sub a (x.sub a h), fun a h => ?_, fun a o e nx nm => ?_, y.os.trans x.os, y.wd, fun a h => ?_⟩
  · rcases y.new a h with q | q | q
    · exact x.new a q
    · rcases back a (y.wd.nx a h) q with q | q
      · exact .inr (.inr q)
      · exact .inr (.inl q)
    · rcases x.mu a q with q | q
      · exact .inr (.inr q)
      · exact .inr (.inl q)
  · refine y.keep a o (x.keep a o e nx nm) nx fun hm => ?_
    rcases x.mu a hm with q | q
    · exact nm q
    · rw [e] at q; cases q
  · rcases y.mu a h with q | q
    · exact x.mu a q
    · by_cases nx : cx.X a
      · obtain ⟨o, e⟩ := x.wd.xex a nx
        rw [e] at q; cases q
      · exact back a nx q
theorem StepS.ofStep (x : Step cx F s F' s') : StepS cx env F s ρ ad F' s' ρ ad := ⟨x.sub, fun a h => (x.new a h).imp id .inl, fun a o e nx _ => x.keep a o e nx, x.os, x.wd, fun _ h => .inl h⟩
theorem Frm.step (f : Frm cx ε env F s ρ ad m cm) (w : Wd cx F s) (x : Step cx F s F' s') : Frm cx ε env F' s' ρ ad m cm := by
  have nf : ∀ {a}, Mut env ρ ad a → ¬ F' a := fun h => by
    obtain ⟨o, e⟩ := f.isSome h
    exact x.notF (f.notF h).1 e
  refine ⟨f.en.step x w, nf (.inl rfl), fun n c hc => ⟨nf (.inr (.inl ⟨n, hc⟩)), (f.cf n c hc).2⟩, f.cinj, f.oinj, fun i l hi => ?_⟩
  obtain ⟨_, nx, ⟨o, e⟩, h4, h5⟩ := f.own i l hi
  exact ⟨nf (.inr (.inr ⟨i, l, hi, rfl⟩)), nx, ⟨o, x.keep _ _ e nx⟩, h4, h5⟩
end
set_option genInjectivity false in
structure HereS (cx : XCx) (ε : Sc) (n : Nat) (cf : CfT) (A : Around) (env : Env) (F : AP) (s : Shared) (ρ : List Slot) (ad : NAd) (m cm : SV) : Prop where
  ok : CxOk cx
  sc : ScOK ε
  calls : CallOK cx n cf
  bud : BudE n A
  wd : Wd cx F s
  frm : Frm cx ε env F s ρ ad m cm
theorem HereS.here {cx ε n cf A env F s ρ ad m cm} (H : HereS cx ε n cf A env F s ρ ad m cm) : Here cx ε n cf A env F s ρ ad m cm := ⟨H.ok, H.calls, H.bud, H.wd, H.frm.en⟩
theorem HereS.step {cx ε n cf A env F s ρ ad m cm} {F' : AP} {s' : Shared} (H : HereS cx ε n cf A env F s ρ ad m cm) (x : Step cx F s F' s') : HereS cx ε n cf A env F' s' ρ ad m cm := ⟨H.ok, H.sc, H.calls, H.bud, x.wd, H.frm.step H.wd x⟩
theorem HereS.stepS {cx ε n cf A env F s ρ ad m cm} {F' : AP} {s' : Shared} {ρ' ad' m' cm'} (H : HereS cx ε n cf A env F s ρ ad m cm) (x : StepS cx env F s ρ ad F' s' ρ' ad') (f : Frm cx ε env F' s' ρ' ad' m' cm') : HereS cx ε n cf A env F' s' ρ' ad' m' cm' := ⟨H.ok, H.sc, H.calls, H.bud, x.wd, f⟩
inductive OutRep (cx : XCx) (F : AP) (h : Heap) : Flow → Out → Prop
  | next : OutRep cx F h .next .next
  | brk : OutRep cx F h .brk .brk
  | cont : OutRep cx F h .cont .cont
  | ret {v : Value} {d : D} : Rep cx.T F h v d → OutRep cx F h (.ret v) (.ret d)
noncomputable def PostS (cx : XCx) (ε : Sc) (env : Env) (F : AP) (s : Shared) (ρ : List Slot) (ad : NAd) (ρ' : List Slot) (o : Out) (Q : Flow → Shared → Prop) : Prop :=
  ∀ f F' s' ad' m' cm', StepS cx env F s ρ ad F' s' ρ' ad' → Frm cx ε env F' s' ρ' ad' m' cm' → OutRep cx F' s'.heap f o → Q f s'
theorem PostS.after {cx ε env F s ρ ad ρ' o Q} {F₁ : AP} {s₁ : Shared} {ρ₁ ad₁} (h : PostS cx ε env F s ρ ad ρ' o Q) (x : StepS cx env F s ρ ad F₁ s₁ ρ₁ ad₁) : PostS cx ε env F₁ s₁ ρ₁ ad₁ ρ' o Q :=
  fun f F' s' ad' m' cm' y fr q => h f F' s' ad' m' cm' (x.trans y) fr q
noncomputable def SoundS (cx : XCx) (ε : Sc) (st : Stmt) (sx : S) : Prop :=
  ∀ n cf A env F s ρ ad m cm, HereS cx ε n cf A env F s ρ ad m cm → ∀ ρ' o, ex cf sx ρ = some (ρ', o) → ∀ Q E, PostS cx ε env F s ρ ad ρ' o Q → wpAny (model cx.prog cx.w) A (exec st env) Q E s
noncomputable def SoundSs (cx : XCx) (ε : Sc) (sts : List Stmt) (sx : S) : Prop :=
  ∀ n cf A env F s ρ ad m cm, HereS cx ε n cf A env F s ρ ad m cm → ∀ ρ' o, ex cf sx ρ = some (ρ', o) → ∀ Q E, PostS cx ε env F s ρ ad ρ' o Q → wpAny (model cx.prog cx.w) A (execs sts env) Q E s
theorem ziW {cf : CfT} {a b : S} {ρ : List Slot} : ex cf (.seq a b) ρ = (match ex cf a ρ with
    | some (ρ', .next) => ex cf b ρ'
    | some (ρ', o) => some (ρ', o)
    | none => none) := by 
  exact zgr cf
theorem ex_fz {cf : CfT} {i : Nat} {ρ : List Slot} : ex cf (.fz i) ρ = (match ownAt ρ i with
    | some l => some (ρ.set i (.val (.list l)), .next)
    | none => some (ρ, .next)) := by 
  exact exq_fz cf
section
variable {cx : XCx} {ε : Sc}
theorem zac : SoundSs cx ε [] .skip := by
  intro n cf A env F s ρ ad m cm H ρ' o h Q E hQ
  replace h := (zg9 cf).symm.trans h; cases h
  exact wpAny_execs_nil (hQ .next F s ad m cm (StepS.refl H.wd) H.frm .next)
theorem zaa {st : Stmt} {sts : List Stmt} {a b : S} (h1 : SoundS cx ε st a) (h2 : SoundSs cx ε sts b) : SoundSs cx ε (st :: sts) (.seq a b) := by
  intro n cf A env F s ρ ad m cm H ρ' o h Q E hQ
  refine wpAny_execs_cons ?_
  replace h := (zgr cf).symm.trans h
  split at h
  · rename_i ρ₁ e1
    refine h1 n cf A env F s ρ ad m cm H ρ₁ .next e1 _ _ fun f F' s' ad' m' cm' x fr q => ?_
    cases q
    exact h2 n cf A env F' s' ρ₁ ad' m' cm' (H.stepS x fr) ρ' o h _ _ (hQ.after x)
  · rename_i ρ₁ o₁ hne e1
    cases h
    refine h1 n cf A env F s ρ ad m cm H _ _ e1 _ _ fun f F' s' ad' m' cm' x fr q => ?_
    cases q with
    | next => exact (hne rfl).elim
    | brk => exact hQ _ F' s' ad' m' cm' x fr .brk
    | cont => exact hQ _ F' s' ad' m' cm' x fr .cont
    | ret r => exact hQ _ F' s' ad' m' cm' x fr (.ret r)
  · cases h
theorem frozenG {n cf A env F s ρ ad m cm} (H : HereS cx ε n cf A env F s ρ ad m cm) {i : Nat} {l : List D} (hs : slotAt ρ i = .own l) (hlt : i < ρ.length) {sl : Slot} (no : ∀ l, sl ≠ .own l)
    (key : ∀ ov, SlotRep cx F s.heap ad i ov (.own l) → SlotRep cx (fun a => F a ∨ a = ad i) s.heap ad i ov sl) :
    ∃ F', StepS cx env F s ρ ad F' s (ρ.set i sl) ad ∧ Frm cx ε env F' s (ρ.set i sl) ad m cm := by
  have f := H.frm
  obtain ⟨nf, nx, ⟨o, g⟩, h4, h5⟩ := f.own i l hs
  have hset : ∀ j, slotAt (ρ.set i sl) j = if j = i then sl else slotAt ρ j := fun j => by rw [zbn, if_pos hlt]
  have hsub : ∀ a, F a → (F a ∨ a = ad i) := fun _ h => .inl h
  have wd' : Wd cx (fun a => F a ∨ a = ad i) s := ⟨H.wd.base, H.ok.xi _ _ _ _ H.wd.xi hsub (fun _ _ _ e => e), H.wd.gens, fun a o h nx => .inl (H.wd.f0 a o h nx), fun a h => h.elim (H.wd.lt a) fun e => ⟨_, e ▸ g⟩, fun a h => h.elim (H.wd.nx a) fun e => e ▸ nx, H.wd.xex⟩
  have slots : ∀ j ov, SlotRep cx F s.heap ad j ov (slotAt ρ j) → SlotRep cx (fun a => F a ∨ a = ad i) s.heap ad j ov (slotAt (ρ.set i sl) j) := by
    intro j ov q'
    rw [hset]
    by_cases hj : j = i
    · subst hj
      rw [if_pos rfl]
      rw [hs] at q'
      exact key ov q'
    · rw [if_neg hj]
      generalize hsl : slotAt ρ j = sl at q'
      cases q' with
      | unset => exact .unset
      | val q => exact .val (q.mono hsub fun _ _ _ e => e)
      | own nf' nx' g z q hd' => exact .own (fun h => h.elim nf' fun e => hj (f.oinj j i _ _ hsl hs e)) nx' g z (q.mono hsub fun _ _ _ e => e) hd'
      | dic nf' nx' sm g q z hd' => exact .dic (fun h => h.elim nf' fun e => hj (f.oinj j i _ _ hsl hs e)) nx' sm g (q.mono hsub fun _ _ _ e => e) z hd'
      | fdic a b c q z => exact .fdic (.inl a) b c (q.mono hsub fun _ _ _ e => e) z
      | app a b c => exact .app (.inl a) b c
  have back : ∀ j l', slotAt (ρ.set i sl) j = .own l' → slotAt ρ j = .own l' ∧ j ≠ i := fun j l' e => by
    rw [hset] at e
    by_cases hj : j = i
    · rw [if_pos hj] at e; exact absurd e (no l')
    · rw [if_neg hj] at e; exact ⟨e, hj⟩
  refine ⟨fun a => F a ∨ a = ad i, ⟨hsub, fun a h => h.imp id fun e => .inr (.inr (.inr ⟨i, l, hs, e⟩)), fun _ _ e _ _ => e, rfl, wd', fun a h => ?_⟩, ?_⟩
  · rcases h with h | h | ⟨j, l', hj, rfl⟩
    · exact .inl (.inl h)
    · exact .inl (.inr (.inl h))
    · exact .inl (.inr (.inr ⟨j, l', (back j l' hj).1, rfl⟩))
  · refine ⟨⟨f.en.kind, f.en.names, f.en.glob, f.en.blt, f.en.code, f.en.lx, f.en.cxx, f.en.ns, f.en.cells, fun y j hy => (f.en.vars y j hy).imp (fun ⟨k, q⟩ => ⟨k, slots j _ q⟩) fun ⟨k, c, q⟩ => ⟨k, c, slots j _ q⟩⟩,
      fun h => h.elim f.lf fun e => h4 e.symm, fun n c hc => ⟨fun h => h.elim (f.cf n c hc).1 fun e => h5 n (e ▸ hc), (f.cf n c hc).2⟩, f.cinj, fun j k l1 l2 h1 h2 e => f.oinj j k _ _ (back j l1 h1).1 (back k l2 h2).1 e, fun j l1 h1 => ?_⟩
    obtain ⟨h1, hj⟩ := back j l1 h1
    obtain ⟨a1, a2, a3, a4, a5⟩ := f.own j l1 h1
    exact ⟨fun h => h.elim a1 fun e => hj (f.oinj j i _ _ h1 hs e), a2, a3, a4, a5⟩
theorem frozen {n cf A env F s ρ ad m cm} (H : HereS cx ε n cf A env F s ρ ad m cm) {i : Nat} {l : List D} (h : ownAt ρ i = some l) :
    ∃ F', StepS cx env F s ρ ad F' s (ρ.set i (.val (.list l))) ad ∧ Frm cx ε env F' s (ρ.set i (.val (.list l))) ad m cm := by
  obtain ⟨hs, hlt, hd⟩ := zcu h
  refine frozenG H hs hlt (fun _ e => nomatch e) fun ov q => ?_
  cases q with
  | dic _ _ _ _ _ _ hd' => rw [hd] at hd'; cases hd'
  | own _ _ g z q => exact .val (.list (.inr rfl) g z (q.mono (fun _ h => .inl h) fun _ _ _ e => e))
theorem zbI {st : Stmt} {i : Nat} {b : S} (hv : ∃ x, ε.vars.lookup x = some i) (h : SoundS cx ε st b) : SoundS cx ε st (.seq (.fz i) b) := by
  intro n cf A env F s ρ ad m cm H ρ' o he Q E hQ
  rw [ziW, ex_fz] at he
  cases hown : ownAt ρ i with
  | none =>
    rw [hown] at he
    exact h n cf A env F s ρ ad m cm H ρ' o he Q E hQ
  | some l =>
    rw [hown] at he
    obtain ⟨F', x, f⟩ := frozen H hown
    exact h n cf A env F' s _ ad m cm (H.stepS x f) ρ' o he Q E (hQ.after x)
end
section
variable {cx : XCx} {ε : Sc} {n : Nat} {cf : CfT} {A : Around} {env : Env} {F F₀ : AP} {s s₀ : Shared} {ρ : List Slot} {ad ad' : NAd} {m cm m' cm' : SV}
theorem zgp (H : HereS cx ε n cf A env F s ρ ad m cm) {b : Addr} (hb : Mut env ρ ad b) {h' : Heap} (sb : Heap.SameBut b s.heap h') (k : Nat) :
    Wd cx F { s with heap := h', toks := k } ∧ (∀ a o, F a → s.heap.get? a = some o → h'.get? a = some o) := by
  obtain ⟨nf, nx⟩ := H.frm.notF hb
  have hk : ∀ a o, a ≠ b → s.heap.get? a = some o → h'.get? a = some o := fun a o h e => (sb.2 a h).trans e
  have fne : ∀ a, F a → a ≠ b := fun a h e => nf (e ▸ h)
  refine ⟨⟨fun a o e x => hk a o (fne a (H.wd.f0 a o e x)) (H.wd.base a o e x), H.ok.xi _ _ _ _ H.wd.xi (fun _ h => h) (fun a o h e => hk a o (h.elim (fne a) fun h e => nx (e ▸ h)) e), H.wd.gens, H.wd.f0, fun a f => let ⟨o, e⟩ := H.wd.lt a f; ⟨o, hk a o (fne a f) e⟩, H.wd.nx,
    fun a f => let ⟨o, e⟩ := H.wd.xex a f; ⟨o, hk a o (fun e => nx (e ▸ f)) e⟩⟩, fun a o f e => hk a o (fne a f) e⟩
theorem zdR (H₀ : HereS cx ε n cf A env F₀ s₀ ρ ad m cm) (x : Step cx F₀ s₀ F s) {b : Addr} (hb : Mut env ρ ad b) {h' : Heap} (sb : Heap.SameBut b s.heap h') (k : Nat) {i : Nat} {sl : Slot}
    (hmu : ∀ l, sl = .own l → Mut env ρ ad (ad' i) ∨ s₀.heap.get? (ad' i) = none) (had : ∀ j, j ≠ i → ad' j = ad j) : StepS cx env F₀ s₀ ρ ad F { s with heap := h', toks := k } (ρ.set i sl) ad' := by
  refine ⟨x.sub, fun a h => (x.new a h).imp id .inl, fun a o e nx nm => ?_, x.os, (zgp (H₀.step x) hb sb k).1, fun a h => ?_⟩
  · exact (sb.2 a fun e => nm (e ▸ hb)).trans (x.keep a o e nx)
  · rcases h with h | h | ⟨j, l, hj, rfl⟩
    · exact .inl (.inl h)
    · exact .inl (.inr (.inl h))
    · rw [zbn] at hj
      by_cases e : j = i
      · subst e
        rw [if_pos rfl] at hj
        split at hj
        · exact hmu l hj
        · cases hj
      · rw [if_neg e] at hj
        rw [had j e]
        exact .inl (.inr (.inr ⟨j, l, hj, rfl⟩))
set_option genInjectivity false in
structure NewOwn (cx : XCx) (env : Env) (F : AP) (h' : Heap) (ρ : List Slot) (ad ad' : NAd) (i : Nat) : Prop where
  nf : ¬ F (ad' i)
  nx : ¬ cx.X (ad' i)
  is : ∃ o, h'.get? (ad' i) = some o
  nl : ad' i ≠ env.locals
  nc : ∀ n, env.cells.lookup n ≠ some (ad' i)
  oth : ∀ j l, j ≠ i → slotAt ρ j = .own l → ad j ≠ ad' i
theorem Frm.put (H : HereS cx ε n cf A env F s ρ ad m cm) {b : Addr} (hb : Mut env ρ ad b) {h' : Heap} (sb : Heap.SameBut b s.heap h') (k : Nat) {i : Nat} {sl : Slot}
    (hns : h'.Ns env.locals m') (hcells : ∀ n c, env.cells.lookup n = some c → h'.IsCell c (cm' n))
    (hvars : ∀ x j, ε.vars.lookup x = some j → j ≠ i → m' x = m x ∧ cm' x = cm x)
    (hnew : ∀ x, ε.vars.lookup x = some i → (ε.kinds.lookup x = some .local → SlotRep cx F h' ad' i (m' x) sl) ∧ (ε.kinds.lookup x ≠ some .local → SlotRep cx F h' ad' i (cm' x) sl))
    (had : ∀ j, j ≠ i → ad' j = ad j) (happ : ad' i = ad i ∨ ∀ j, slotAt ρ j ≠ .app i)
    (hbo : ∀ j l, slotAt ρ j = .own l → j ≠ i → ad j ≠ b) (hown : ∀ l, sl = .own l → NewOwn cx env F h' ρ ad ad' i) :
    Frm cx ε env F { s with heap := h', toks := k } (ρ.set i sl) ad' m' cm' := by
  have f := H.frm
  obtain ⟨w', keep⟩ := zgp H hb sb k
  have keepB : ∀ a o, a ≠ b → s.heap.get? a = some o → h'.get? a = some o := fun a o h e => (sb.2 a h).trans e
  have old : ∀ j ov, j ≠ i → SlotRep cx F s.heap ad j ov (slotAt ρ j) → SlotRep cx F h' ad' j ov (slotAt ρ j) := by
    intro j ov hj q
    have hbo := fun l e => hbo j l e hj
    have happ := happ.imp id fun h => h j
    generalize slotAt ρ j = x at q hbo happ
    cases q with
    | unset => exact .unset
    | val q => exact .val (q.mono (fun _ h => h) keep)
    | own nf nx g z q hd =>
      rw [← had j hj] at nf nx g ⊢
      exact .own nf nx (keepB _ _ (by rw [had j hj]; exact hbo _ rfl) g) z (q.mono (fun _ h => h) keep) hd
    | dic nf nx sm g q z hd =>
      rw [← had j hj] at nf nx sm g ⊢
      obtain ⟨o, es, ep, ho, r⟩ := g
      exact .dic nf nx sm ⟨o, es, ep, keepB _ _ (by rw [had j hj]; exact hbo _ rfl) ho, r⟩ (q.mono (fun _ h => h) keep) z hd
    | fdic fb sm g q z =>
      obtain ⟨o, es, ep, ho, r⟩ := g
      exact .fdic fb sm ⟨o, es, ep, keep _ _ fb ho, r⟩ (q.mono (fun _ h => h) keep) z
    | @app b' o k fb g e =>
      refine .app fb (keep _ _ fb g) ?_
      by_cases hk : k = i
      · subst hk
        rcases happ with h | h
        · rw [h]; exact e
        · exact absurd rfl h
      · rw [had k hk]; exact e
  have slots : ∀ x j, ε.vars.lookup x = some j →
    (ε.kinds.lookup x = some .local ∧ SlotRep cx F h' ad' j (m' x) (slotAt (ρ.set i sl) j)) ∨
    ((ε.kinds.lookup x = some .cell ∨ ε.kinds.lookup x = some .free) ∧ (∃ c, env.cells.lookup x = some c) ∧ SlotRep cx F h' ad' j (cm' x) (slotAt (ρ.set i sl) j)) := by
    intro x j hx
    rw [zbn]
    by_cases e : j = i
    · subst e
      rw [if_pos rfl]
      have nl : ∀ {k : NameKind}, ε.kinds.lookup x = some k → k ≠ .local → ε.kinds.lookup x ≠ some .local := fun h hk e => hk (by rw [h] at e; exact Option.some.inj e)
      rcases f.en.vars x j hx with ⟨k, q⟩ | ⟨k, c, q⟩
      · left
        refine ⟨k, ?_⟩
        split
        · exact (hnew x hx).1 k
        · exact .unset
      · right
        refine ⟨k, c, ?_⟩
        split
        · refine (hnew x hx).2 fun e => ?_
          rw [e] at k; rcases k with k | k <;> cases k
        · exact .unset
    · rw [if_neg e]
      obtain ⟨e1, e2⟩ := hvars x j hx e
      rw [e1, e2]
      exact (f.en.vars x j hx).imp (fun ⟨k, q⟩ => ⟨k, old j _ e q⟩) fun ⟨k, c, q⟩ => ⟨k, c, old j _ e q⟩
  refine ⟨⟨f.en.kind, f.en.names, f.en.glob, f.en.blt, f.en.code, f.en.lx, f.en.cxx, hns, hcells, slots⟩, f.lf, f.cf, f.cinj, fun p q l1 l2 h1 h2 e => ?_, fun j l hj => ?_⟩
  · rw [zbn] at h1 h2
    by_cases hp : p = i
    · by_cases hq : q = i
      · rw [hp, hq]
      · subst hp
        rw [if_pos rfl] at h1
        rw [if_neg hq] at h2
        split at h1
        · have := (hown l1 h1).oth q l2 hq h2
          rw [had q hq] at e
          exact absurd e.symm this
        · cases h1
    · by_cases hq : q = i
      · subst hq
        rw [if_neg hp] at h1
        rw [if_pos rfl] at h2
        split at h2
        · have := (hown l2 h2).oth p l1 hp h1
          rw [had p hp] at e
          exact absurd e this
        · cases h2
      · rw [if_neg hp] at h1
        rw [if_neg hq] at h2
        rw [had p hp, had q hq] at e
        exact f.oinj p q l1 l2 h1 h2 e
  · rw [zbn] at hj
    by_cases e : j = i
    · subst e
      rw [if_pos rfl] at hj
      split at hj
      · have q := hown l hj
        exact ⟨q.nf, q.nx, q.is, q.nl, q.nc⟩
      · cases hj
    · rw [if_neg e] at hj
      rw [had j e]
      obtain ⟨a1, a2, ⟨o, g⟩, a4, a5⟩ := f.own j l hj
      exact ⟨a1, a2, ⟨o, keepB _ _ (hbo j l hj e) g⟩, a4, a5⟩
theorem zc7 (H₀ : HereS cx ε n cf A env F₀ s₀ ρ ad m cm) (st : Step cx F₀ s₀ F s) {x : Str} {i : Nat} (hx : ε.vars.lookup x = some i) (hfree : ε.kinds.lookup x ≠ some .free) {v : Value} {sl : Slot}
    (had : ∀ j, j ≠ i → ad' j = ad j) (happ : ad' i = ad i ∨ ∀ j, slotAt ρ j ≠ .app i)
    (hv : ∀ h', (∀ a o, F a ∨ ¬ Mut env ρ ad a → s.heap.get? a = some o → h'.get? a = some o) → SlotRep cx F h' ad' i (some v) sl)
    (hmu : ∀ l, sl = .own l → s₀.heap.get? (ad' i) = none ∧ ¬ F (ad' i) ∧ ¬ cx.X (ad' i) ∧ ∃ o, s.heap.get? (ad' i) = some o)
    {Q : Unit → Shared → Prop} {E : VP}
    (hQ : ∀ s' m' cm', (∀ a o, ¬ Mut env ρ ad a → s.heap.get? a = some o → s'.heap.get? a = some o) → StepS cx env F₀ s₀ ρ ad F s' (ρ.set i sl) ad' → Frm cx ε env F s' (ρ.set i sl) ad' m' cm' → Q () s') :
    wpAny (model cx.prog cx.w) A (storeName env x v) Q E s := by
  have H := H₀.step st
  have f := H.frm
  have notMut : ∀ l, sl = .own l → ¬ Mut env ρ ad (ad' i) := fun l hl hm => by
    obtain ⟨o, e⟩ := H₀.frm.isSome hm
    rw [(hmu l hl).1] at e; cases e
  have mkOwn : ∀ h', (∀ a o, ¬ Mut env ρ ad a → s.heap.get? a = some o → h'.get? a = some o) → ∀ l, sl = .own l → NewOwn cx env F h' ρ ad ad' i := by
    intro h' hk l hl
    obtain ⟨a1, a2, a3, o, a4⟩ := hmu l hl
    have nm := notMut l hl
    exact ⟨a2, a3, ⟨o, hk _ _ nm a4⟩, fun e => nm (.inl e), fun n e => nm (.inr (.inl ⟨n, e⟩)), fun j l' hj hs e => nm (.inr (.inr ⟨j, l', hs, e.symm⟩))⟩
  have others : ∀ y j, ε.vars.lookup y = some j → j ≠ i → y ≠ x := fun y j hy hj e => hj (by subst e; rw [hx] at hy; exact (Option.some.inj hy).symm)
  have same : ∀ y, ε.vars.lookup y = some i → y = x := fun y hy => H.sc.inj y x i hy hx
  rcases f.en.vars x i hx with ⟨hk, _⟩ | ⟨hk, ⟨c, hc⟩, _⟩
  · have hl : env.kindOf x = some .local := by unfold Env.kindOf; rw [f.en.names]; exact hk
    have hp : (env.scope.kind == .class || (env.scope.kind == .module && env.locals != env.globals)) = false := by rw [f.en.kind]; rfl
    refine wpAny_storeName_local hl f.en.ns (fun h' hn sb => ?_) hp
    have hb : Mut env ρ ad env.locals := .inl rfl
    have hk1 : ∀ a o, ¬ Mut env ρ ad a → s.heap.get? a = some o → h'.get? a = some o := fun a o nm e => (sb.2 a fun e => nm (e ▸ hb)).trans e
    have hk2 : ∀ a o, F a ∨ ¬ Mut env ρ ad a → s.heap.get? a = some o → h'.get? a = some o := fun a o nm e => nm.elim (fun h => (sb.2 a fun e => f.lf (e ▸ h)).trans e) fun h => hk1 a o h e
    refine hQ _ (fun y => if y = x then some v else m y) cm hk1 (zdR H₀ st hb sb _ (fun l hl => .inr (hmu l hl).1) had) ?_
    refine Frm.put H hb sb _ hn (fun n c hc => ?_) (fun y j hy hj => ⟨if_neg (others y j hy hj), rfl⟩) (fun y hy => ?_) had happ (fun j l hs _ => (f.own j l hs).2.2.2.1) (mkOwn h' hk1)
    · obtain ⟨o, g, d⟩ := f.en.cells n c hc
      exact ⟨o, (sb.2 c (f.cf n c hc).2).trans g, d⟩
    · have ey := same y hy
      refine ⟨fun _ => ?_, fun h => absurd (ey ▸ hk) h⟩
      show SlotRep cx F h' ad' i (if y = x then some v else m y) sl
      rw [if_pos ey]
      exact hv h' hk2
  · have hl : env.kindOf x = some .cell := by
      unfold Env.kindOf; rw [f.en.names]
      exact hk.resolve_right hfree
    refine wpAny_storeName_cell f.en.kind hl hc (f.en.cells x c hc) (fun h' hn sb => ?_)
    have hb : Mut env ρ ad c := .inr (.inl ⟨x, hc⟩)
    have hk1 : ∀ a o, ¬ Mut env ρ ad a → s.heap.get? a = some o → h'.get? a = some o := fun a o nm e => (sb.2 a fun e => nm (e ▸ hb)).trans e
    have hk2 : ∀ a o, F a ∨ ¬ Mut env ρ ad a → s.heap.get? a = some o → h'.get? a = some o := fun a o nm e => nm.elim (fun h => (sb.2 a fun e => (f.cf x c hc).1 (e ▸ h)).trans e) fun h => hk1 a o h e
    refine hQ _ m (fun y => if y = x then some v else cm y) hk1 (zdR H₀ st hb sb s.toks (fun l hl => .inr (hmu l hl).1) had) ?_
    refine Frm.put H hb sb _ (f.en.ns.sameBut sb (Ne.symm (f.cf x c hc).2)) (fun n c' hc' => ?_) (fun y j hy hj => ⟨rfl, if_neg (others y j hy hj)⟩) (fun y hy => ?_) had happ (fun j l hs _ e => (f.own j l hs).2.2.2.2 x (e ▸ hc)) (mkOwn h' hk1)
    · by_cases e : n = x
      · subst e
        rw [hc] at hc'; cases hc'
        rw [if_pos rfl]
        exact hn
      · rw [if_neg e]
        obtain ⟨o, g, d⟩ := f.en.cells n c' hc'
        exact ⟨o, (sb.2 c' fun e' => e (f.cinj n x c (e' ▸ hc') hc)).trans g, d⟩
    · have ey := same y hy
      refine ⟨fun h => ?_, fun _ => ?_⟩
      · rw [ey] at h; rw [h] at hk; rcases hk with hk | hk <;> cases hk
      · show SlotRep cx F h' ad' i (if y = x then some v else cm y) sl
        rw [if_pos ey]
        exact hv h' hk2
theorem zdM (H₀ : HereS cx ε n cf A env F₀ s₀ ρ ad m cm) (st : Step cx F₀ s₀ F s) {x : Str} {i : Nat} (hx : ε.vars.lookup x = some i) (hfree : ε.kinds.lookup x ≠ some .free) {v : Value} {sl : Slot}
    (had : ∀ j, j ≠ i → ad' j = ad j) (happ : ad' i = ad i ∨ ∀ j, slotAt ρ j ≠ .app i)
    (hv : ∀ h', (∀ a o, F a ∨ ¬ Mut env ρ ad a → s.heap.get? a = some o → h'.get? a = some o) → SlotRep cx F h' ad' i (some v) sl)
    (hmu : ∀ l, sl = .own l → s₀.heap.get? (ad' i) = none ∧ ¬ F (ad' i) ∧ ¬ cx.X (ad' i) ∧ ∃ o, s.heap.get? (ad' i) = some o)
    {Q : Unit → Shared → Prop} {E : VP}
    (hQ : ∀ s' m' cm', StepS cx env F₀ s₀ ρ ad F s' (ρ.set i sl) ad' → Frm cx ε env F s' (ρ.set i sl) ad' m' cm' → Q () s') :
    wpAny (model cx.prog cx.w) A (storeName env x v) Q E s := zc7 H₀ st hx hfree had happ hv hmu fun s' m' cm' _ => hQ s' m' cm'
end
section
variable {cx : XCx} {ε : Sc} {n : Nat} {cf : CfT} {A : Around} {env : Env} {F F₀ F' : AP} {s s₀ s' : Shared} {ρ ρ' : List Slot} {ad ad' : NAd} {m cm m' cm' : SV}
theorem StepS.rep (x : StepS cx env F s ρ ad F' s' ρ' ad') (H : HereS cx ε n cf A env F s ρ ad m cm) {v : Value} {d : D} (r : Rep cx.T F s.heap v d) : Rep cx.T F' s'.heap v d :=
  r.mono x.sub fun a o f e => x.keep a o e (H.wd.nx a f) fun hm => (H.frm.notF hm).1 f
theorem StepS.repL (x : StepS cx env F s ρ ad F' s' ρ' ad') (H : HereS cx ε n cf A env F s ρ ad m cm) {v : List Value} {d : List D} (r : RepL cx.T F s.heap v d) : RepL cx.T F' s'.heap v d :=
  r.mono x.sub fun a o f e => x.keep a o e (H.wd.nx a f) fun hm => (H.frm.notF hm).1 f
theorem zb9 (H₀ : HereS cx ε n cf A env F₀ s₀ ρ ad m cm) (st : Step cx F₀ s₀ F s) {x : Str} {i : Nat} (hx : ε.vars.lookup x = some i) (hfree : ε.kinds.lookup x ≠ some .free) {v : Value} {d : D} (hv : Rep cx.T F s.heap v d)
    {Q : Unit → Shared → Prop} {E : VP}
    (hQ : ∀ s' m' cm', StepS cx env F₀ s₀ ρ ad F s' (ρ.set i (.val d)) ad → Frm cx ε env F s' (ρ.set i (.val d)) ad m' cm' → Q () s') :
    wpAny (model cx.prog cx.w) A (storeName env x v) Q E s :=
  zdM H₀ st hx hfree (sl := .val d) (ad' := ad) (fun _ _ => rfl) (.inl rfl) (fun h' hk => .val (hv.mono (fun _ h => h) fun a o f e => hk a o (.inl f) e)) (fun _ e => nomatch e) hQ
theorem zgu {x : X} {d : D} (h : ev1 cf x ρ = some d) : ∃ r, ev cf x ρ = some [r] ∧ r.fz = some d := by
  unfold ev1 at h
  split at h
  · rename_i r e; exact ⟨r, e, h⟩
  · cases h
theorem zd7 (H : HereS cx ε n cf A env F s ρ ad m cm) {e : Expr} {x : X} (h : Sound cx ε e x) {d : D} (hd : ev1 cf x ρ = some d) {Q E : VP}
    (hQ : ∀ v F' s', Step cx F s F' s' → Rep cx.T F' s'.heap v d → Q v s') : wpAny (model cx.prog cx.w) A (eval e env) Q E s := by
  obtain ⟨r, e1, e2⟩ := zgu hd
  refine h.ev n cf A env F s ρ ad m cm H.here r e1 _ _ fun v F' s' st q => ?_
  obtain ⟨F'', st', _, q'⟩ := st.fz H.ok H.wd q e2
  exact hQ v F'' s' st' q'
end
section
variable {cx : XCx} {ε : Sc}
theorem zfy {pos : Pos} : SoundS cx ε (.Break pos) .brk := by
  intro n cf A env F s ρ ad m cm H ρ' o h Q E hQ
  replace h := (exq_brk cf).symm.trans h; cases h
  exact wpAny_Break (hQ .brk F s ad m cm (StepS.refl H.wd) H.frm .brk)
theorem zaq {e : Expr} {x : X} {pos : Pos} (hx : Sound cx ε e x) : SoundS cx ε (.Return (some e) pos) (.ret x) := by
  intro n cf A env F s ρ ad m cm H ρ' o h Q E hQ
  replace h := (ziU cf).symm.trans h
  obtain ⟨d, hd, e'⟩ := Option.map_eq_some_iff.mp h
  cases e'
  refine wpAny_Return_some (zd7 H hx hd fun v F' s' st q => ?_)
  exact hQ _ F' s' ad m cm (.ofStep st) (H.step st).frm (.ret q)
theorem zaj {c : Expr} {x : X} {bs es : List Stmt} {a b : S} {pos : Pos} (hx : Sound cx ε c x) (ha : SoundSs cx ε bs a) (hb : SoundSs cx ε es b) : SoundS cx ε (.If c bs es pos) (.ite x a b) := by
  intro n cf A env F s ρ ad m cm H ρ' o h Q E hQ
  replace h := (zgs cf).symm.trans h
  split at h
  · rename_i e
    refine wpAny_If (hx.tr n cf A env F s ρ ad m cm H.here true e _ _ fun F' s' st => ?_)
    show wpAny _ _ _ _ _ _
    exact ha n cf A env F' s' ρ ad m cm (H.step st) ρ' o h _ _ (hQ.after (.ofStep st))
  · rename_i e
    refine wpAny_If (hx.tr n cf A env F s ρ ad m cm H.here false e _ _ fun F' s' st => ?_)
    show wpAny _ _ _ _ _ _
    exact hb n cf A env F' s' ρ ad m cm (H.step st) ρ' o h _ _ (hQ.after (.ofStep st))
  · cases h
theorem zeR {c : Expr} {x : X} {msg : Option Expr} {pos : Pos} (hx : Sound cx ε c x) : SoundS cx ε (.Assert c msg pos) (.assert x) := by
  intro n cf A env F s ρ ad m cm H ρ' o h Q E hQ
  replace h := (zeD cf).symm.trans h
  split at h
  · rename_i e
    cases h
    refine wpAny_Assert_holds (hx.tr n cf A env F s ρ ad m cm H.here true e _ _ fun F' s' st => ?_)
    exact ⟨rfl, hQ .next F' s' ad m cm (.ofStep st) (H.step st).frm .next⟩
  · cases h
theorem zad {x : Str} {i : Nat} {e : Expr} {y : X} {pos' pos : Pos} (hx : ε.vars.lookup x = some i) (hf : ε.kinds.lookup x ≠ some .free) (h : Sound cx ε e y) (hs : ∀ env : Env, env.scope.kind = .function → env.scope.names = ε.kinds → swapsWith e (some (.Name x pos')) pos.line env = pure false) :
    SoundS cx ε (.Assign [.Name x pos'] e pos) (.assign i y) := by
  intro n cf A env F s ρ ad m cm H ρ' o he Q E hQ
  replace he := (zdg cf).symm.trans he
  obtain ⟨d, hd, e'⟩ := Option.map_eq_some_iff.mp he
  cases e'
  refine wpAny_Assign_Name (zd7 H h hd fun v F' s' st q => ?_) (hs env H.frm.en.kind H.frm.en.names)
  exact zb9 H st hx hf q fun s'' m' cm' x f => hQ .next F' s'' ad m' cm' x f .next
theorem zgX {i : Nat} {ρ : List Slot} (h : noApp i ρ = true) : ∀ j, slotAt ρ j ≠ .app i := by
  intro j e
  unfold noApp at h
  rw [List.all_eq_true] at h
  unfold slotAt at e
  rw [List.getD_eq_getElem?_getD] at e
  cases hj : ρ[j]? with
  | none => rw [hj] at e; cases e
  | some sl =>
    rw [hj] at e
    have := h sl (List.mem_of_getElem? hj)
    have e' : sl = .app i := e
    subst e'
    simp at this
theorem zbb {x : Str} {i : Nat} {e : Expr} {y : X} {pos' pos : Pos} (hx : ε.vars.lookup x = some i) (hf : ε.kinds.lookup x ≠ some .free) (h : Sound cx ε e y) (hs : ∀ env : Env, env.scope.kind = .function → env.scope.names = ε.kinds → swapsWith e (some (.Name x pos')) pos.line env = pure false) :
    SoundS cx ε (.Assign [.Name x pos'] e pos) (.assignO i y) := by
  intro n cf A env F s ρ ad m cm H ρ' o he Q E hQ
  replace he := (zcP cf).symm.trans he
  split at he
  · rename_i hna
    split at he
    · rename_i l e1
      by_cases hd : dSlot i = true
      · rw [if_pos hd] at he; cases he
      rw [if_neg hd] at he
      have hd : dSlot i = false := by simpa using hd
      cases he
      refine wpAny_Assign_Name (h.ev n cf A env F s ρ ad m cm H.here _ e1 _ _ fun v F' s' st q => ?_) (hs env H.frm.en.kind H.frm.en.names)
      cases q with
      | @own a vs k l lo nf nx g z q =>
        refine zdM H st hx hf (sl := .own l) (ad' := fun j => if j = i then a else ad j) (fun j hj => if_neg hj) (.inr (zgX hna)) (fun h' hk => ?_) (fun l' _ => ?_) fun s'' m' cm' x f => hQ .next F' s'' _ m' cm' x f .next
        · have nm : ¬ Mut env ρ ad a := fun hm => by
            obtain ⟨o, e⟩ := H.frm.isSome hm
            rw [lo] at e; cases e
          have : SlotRep cx F' h' (fun j => if j = i then a else ad j) i (some (.ref ((fun j => if j = i then a else ad j) i))) (.own l) := by
            refine .own (vs := vs) (n := k) ?_ ?_ ?_ z (q.mono (fun _ h => h) fun b o f e => hk b o (.inl f) e) hd <;> simp only [if_true]
            · exact nf
            · exact nx
            · exact hk a _ (.inr nm) g
          simpa using this
        · simp only [if_true]
          exact ⟨lo, nf, nx, _, g⟩
    · rename_i d e1
      cases he
      refine wpAny_Assign_Name (h.ev n cf A env F s ρ ad m cm H.here _ e1 _ _ fun v F' s' st q => ?_) (hs env H.frm.en.kind H.frm.en.names)
      cases q with
      | val q => exact zb9 H st hx hf q fun s'' m' cm' x f => hQ .next F' s'' ad m' cm' x f .next
    · cases he
  · cases he
end
set_option genInjectivity false in
structure Iter (cx : XCx) (A : Around) (F₀ : AP) (s₀ : Shared) (items : List D) (I : Addr) (F : AP) (s : Shared) (fp wr : List Addr) (P : Nat → Value → Prop) (St : Nat → Heap → Prop) : Prop where
  st : Step cx F₀ s₀ F s
  W : ∀ A' : Around, A'.handled = none → Walks cx.prog cx.w A' I fp wr items.length P St
  s0 : St 0 s.heap
  new : ∀ b ∈ wr, s₀.heap.get? b = none ∧ ¬ F b
  one : ∀ b ∈ wr, b = I
  deps : ∀ b ∈ fp, b ∈ wr ∨ F b
  item : ∀ i v, P i v → ∃ d, items[i]? = some d ∧ Rep cx.T F s.heap v d
  ty : ∀ i h, St i h → ∃ o T, h.get? I = some o ∧ o.cls = .type T ∧ ["enumerate", "zip", "dict_itemiterator", "dict_reverseitemiterator", "odict_iterator", "itertools.zip_longest", "itertools.pairwise"].contains T = false
  lim : items.length ≤ lim
noncomputable def SoundI (cx : XCx) (ε : Sc) (it : Expr) (x : X) : Prop :=
  ∀ n cf A env F s ρ ad m cm, Here cx ε n cf A env F s ρ ad m cm → ∀ items, evI cf x ρ = some items → ∀ (Q E : VP),
    (∀ I F' s' fp wr P St, Iter cx A F s items I F' s' fp wr P St → Q (.ref I) s') →
    wpAny (model cx.prog cx.w) A (eval it env) (fun v s₁ => wpAny (model cx.prog cx.w) A (pyIter v) Q E s₁) E s
noncomputable def SoundA (cx : XCx) (ε : Sc) (target : Expr) (put : D → List Slot → Option (List Slot)) : Prop :=
  ∀ n cf A env F s ρ ad m cm, HereS cx ε n cf A env F s ρ ad m cm → ∀ v d ρ', Rep cx.T F s.heap v d → put d ρ = some ρ' → ∀ (Q : Unit → Shared → Prop) (E : VP),
    (∀ F' s' m' cm', StepS cx env F s ρ ad F' s' ρ' ad → Frm cx ε env F' s' ρ' ad m' cm' → Q () s') → wpAny (model cx.prog cx.w) A (assign target env v) Q E s
section
variable {cx : XCx} {ε : Sc} {n : Nat} {cf : CfT} {A : Around} {env : Env} {F F₀ F' : AP} {s s₀ s' : Shared} {ρ ρ' : List Slot} {ad ad' : NAd} {m cm m' cm' : SV}
theorem Frm.kept (f : Frm cx ε env F s ρ ad m cm) {h' : Heap} (k : Nat) (hk : ∀ a o, F a ∨ Mut env ρ ad a → s.heap.get? a = some o → h'.get? a = some o) :
    Frm cx ε env F { s with heap := h', toks := k } ρ ad m cm := by
  have hl : Mut env ρ ad env.locals := .inl rfl
  have slots : ∀ j ov, SlotRep cx F s.heap ad j ov (slotAt ρ j) → SlotRep cx F h' ad j ov (slotAt ρ j) := by
    intro j ov q
    have hm : ∀ l, slotAt ρ j = .own l → Mut env ρ ad (ad j) := fun l e => .inr (.inr ⟨j, l, e, rfl⟩)
    generalize slotAt ρ j = x at q hm
    cases q with
    | unset => exact .unset
    | val q => exact .val (q.mono (fun _ h => h) fun a o f e => hk a o (.inl f) e)
    | own nf nx g z q hd => exact .own nf nx (hk _ _ (.inr (hm _ rfl)) g) z (q.mono (fun _ h => h) fun a o f e => hk a o (.inl f) e) hd
    | dic nf nx sm g q z hd =>
      obtain ⟨o, es, ep, ho, r⟩ := g
      exact .dic nf nx sm ⟨o, es, ep, hk _ _ (.inr (hm _ rfl)) ho, r⟩ (q.mono (fun _ h => h) fun a o f e => hk a o (.inl f) e) z hd
    | fdic fb sm g q z =>
      obtain ⟨o, es, ep, ho, r⟩ := g
      exact .fdic fb sm ⟨o, es, ep, hk _ _ (.inl fb) ho, r⟩ (q.mono (fun _ h => h) fun a o f e => hk a o (.inl f) e) z
    | app fb g e => exact .app fb (hk _ _ (.inl fb) g) e
  refine ⟨⟨f.en.kind, f.en.names, f.en.glob, f.en.blt, f.en.code, f.en.lx, f.en.cxx, f.en.ns.at' fun o e => hk _ o (.inr hl) e, fun n c hc => let ⟨o, g, d⟩ := f.en.cells n c hc; ⟨o, hk _ o (.inr (.inr (.inl ⟨n, hc⟩))) g, d⟩,
    fun y i hy => (f.en.vars y i hy).imp (fun ⟨k, q⟩ => ⟨k, slots i _ q⟩) fun ⟨k, c, q⟩ => ⟨k, c, slots i _ q⟩⟩, f.lf, f.cf, f.cinj, f.oinj, fun i l hi => ?_⟩
  obtain ⟨a1, a2, ⟨o, g⟩, a4, a5⟩ := f.own i l hi
  exact ⟨a1, a2, ⟨o, hk _ _ (.inr (.inr (.inr ⟨i, l, hi, rfl⟩))) g⟩, a4, a5⟩
theorem StepS.kept (ok : CxOk cx) (w₀ : Wd cx F₀ s₀) (x : StepS cx env F₀ s₀ ρ ad F s ρ' ad') (f : Frm cx ε env F s ρ' ad' m cm) {wr : List Addr} (hw : ∀ b ∈ wr, s₀.heap.get? b = none ∧ ¬ F b ∧ ¬ Mut env ρ' ad' b) {h' : Heap} (k : Nat)
    (hk : ∀ a o, a ∉ wr → s.heap.get? a = some o → h'.get? a = some o) : StepS cx env F₀ s₀ ρ ad F { s with heap := h', toks := k } ρ' ad' ∧ Frm cx ε env F { s with heap := h', toks := k } ρ' ad' m cm := by
  have nf : ∀ a, F a → a ∉ wr := fun a h hm => (hw a hm).2.1 h
  have nm : ∀ a, Mut env ρ' ad' a → a ∉ wr := fun a h hm => (hw a hm).2.2 h
  have nx : ∀ a, cx.X a → a ∉ wr := fun a h hm => by
    obtain ⟨o, e⟩ := w₀.xex a h
    rw [(hw a hm).1] at e; cases e
  have w := x.wd
  refine ⟨⟨x.sub, x.new, fun a o e ax am => ?_, x.os, ⟨fun a o e ax => hk a o (nf a (w.f0 a o e ax)) (w.base a o e ax), ok.xi _ _ _ _ w.xi (fun _ h => h) (fun a o h e => hk a o (h.elim (nf a) (nx a)) e), w.gens, w.f0, fun a h => let ⟨o, e⟩ := w.lt a h; ⟨o, hk a o (nf a h) e⟩, w.nx, fun a h => let ⟨o, e⟩ := w.xex a h; ⟨o, hk a o (nx a h) e⟩⟩, x.mu⟩, f.kept k fun a o h e => hk a o (h.elim (nf a) (nm a)) e⟩
  refine hk a o (fun hm => ?_) (x.keep a o e ax am)
  rw [(hw a hm).1] at e; cases e
end
section
variable {cx : XCx} {ε : Sc}
theorem zgb {x : Str} {i : Nat} {p : Pos} (hx : ε.vars.lookup x = some i) (hf : ε.kinds.lookup x ≠ some .free) : SoundA cx ε (.Name x p) (put1 i) := by
  intro n cf A env F s ρ ad m cm H v d ρ' hv hp Q E hQ
  cases hp
  exact wpAny_assign_Name (zb9 H (Step.refl H.wd) hx hf hv fun s' m' cm' x f => hQ F s' m' cm' x f)
inductive WhI (cx : XCx) (ε : Sc) (env : Env) (F : AP) (s : Shared) (ρ : List Slot) (ad : NAd) (go : Nat → List Slot → Option (List Slot × Out)) (res : Option (List Slot × Out)) (k : Nat) (s' : Shared) : Prop
  | mk (F' : AP) (ρ₁ : List Slot) (ad₁ : NAd) (m₁ cm₁ : SV) (x1 : StepS cx env F s ρ ad F' s' ρ₁ ad₁) (f1 : Frm cx ε env F' s' ρ₁ ad₁ m₁ cm₁) (hg : go k ρ₁ = res)
theorem zbP {c : Expr} {x : X} {bs : List Stmt} {b : S} {pos : Pos} (hx : Sound cx ε c x) (hb : SoundSs cx ε bs b) : SoundS cx ε (.While c bs [] pos) (.while x b) := by
  intro n cf A env F s ρ ad m cm H ρ' o h Q E hQ
  replace h := (zfS cf).symm.trans h
  refine wpAny_While ?_
  refine codeAny_whileLoop (WhI cx ε env F s ρ ad (whileGo (evT cf x) (ex cf b)) (some (ρ', o))) (fun k s' hI => ?_) Mine.wf
    ⟨F, ρ, ad, m, cm, StepS.refl H.wd, H.frm, h⟩
  obtain ⟨F', ρ₁, ad₁, m₁, cm₁, x1, f1, hg⟩ := hI
  have H1 := H.stepS x1 f1
  cases k with
  | zero => cases hg
  | succ k =>
    cases e : evT cf x ρ₁ with
    | none => unfold whileGo at hg; rw [e] at hg; cases hg
    | some c =>
      refine hx.tr n cf A env F' s' ρ₁ ad₁ m₁ cm₁ H1.here c e _ _ fun F2 s2 st => ?_
      cases c with
      | false =>
        replace hg : some (ρ₁, Out.next) = some (ρ', o) := by unfold whileGo at hg; rw [e] at hg; exact hg
        cases hg
        show wpAny _ _ _ _ _ _
        exact wpAny_execs_nil (hQ .next F2 s2 ad₁ m₁ cm₁ (x1.trans (.ofStep st)) (H1.step st).frm .next)
      | true =>
        show wpAny _ _ _ _ _ _
        cases e2 : ex cf b ρ₁ with
        | none => unfold whileGo at hg; rw [e] at hg; simp only [e2] at hg; cases hg
        | some y =>
          obtain ⟨ρ₂, o₂⟩ := y
          refine hb n cf A env F2 s2 ρ₁ ad₁ m₁ cm₁ (H1.step st) ρ₂ o₂ e2 _ _ fun f F3 s3 ad3 m3 cm3 x3 f3 q => ?_
          have x4 := (x1.trans (.ofStep st)).trans x3
          unfold whileGo at hg
          rw [e] at hg
          simp only [e2] at hg
          cases q with
          | next => exact ⟨k, Nat.lt_succ_self k, F3, ρ₂, ad3, m3, cm3, x4, f3, hg⟩
          | cont => exact ⟨k, Nat.lt_succ_self k, F3, ρ₂, ad3, m3, cm3, x4, f3, hg⟩
          | brk => cases hg; exact hQ .next F3 s3 ad3 m3 cm3 x4 f3 .next
          | ret r => cases hg; exact hQ _ F3 s3 ad3 m3 cm3 x4 f3 (.ret r)
theorem zdH {A : Around} {s : Shared} {E : VP} {target : Expr} {I : Addr} {v : Value} {Q : Unit → Shared → Prop} {o : Obj} {T : String} (hg : s.heap.get? I = some o) (hc : o.cls = .type T)
    (hT : ["enumerate", "zip", "dict_itemiterator", "dict_reverseitemiterator", "odict_iterator", "itertools.zip_longest", "itertools.pairwise"].contains T = false) (h : Q () s) :
    wpAny (model cx.prog cx.w) A (letOwnedTupleGo target (.ref I) v) Q E s := by
  have key : ∀ es k p, wpAny (model cx.prog cx.w) A (letOwnedTupleGo (.Tuple es k p) (.ref I) v) Q E s := by
    intro es k p
    cases v with
    | ref a =>
      show wpAny _ _ (load I >>= _) Q E s
      refine wb (wpAny_load hg ?_)
      rw [hc]
      generalize o.data = dd
      cases dd with
      | fields vs =>
        show wpAny _ _ (if (_ && _) = true then _ else _) Q E s
        rw [hT]
        exact wpAny_pure h
      | _ => exact wpAny_pure h
    | _ => exact wpAny_pure h
  cases target with
  | Tuple es k p => exact key es k p
  | List es p => exact key [] 0 p
  | _ => exact wpAny_pure h
set_option genInjectivity false in
structure IterG (cx : XCx) (A : Around) (target : Expr) (F₀ : AP) (s₀ : Shared) (items : List D) (I : Addr) (F : AP) (s : Shared) (wr : List Addr) (Inv : Nat → Heap → Prop) (TR : (Addr → Prop) → Heap → Value → D → Prop) : Prop where
  st : Step cx F₀ s₀ F s
  i0 : Inv 0 s.heap
  new : ∀ b ∈ wr, s₀.heap.get? b = none ∧ ¬ F b
  live : ∀ j h, Inv j h → ∀ b ∈ wr, ∃ o, h.get? b = some o
  frame : ∀ j h h', Inv j h → (∀ b, b ∈ wr ∨ F b → ∀ o, h.get? b = some o → h'.get? b = some o) → Inv j h'
  next : ∀ j (s' : Shared) (F' : AP) (K : VP) (N : Shared → Prop) (E : VP), j < items.length → Inv j s'.heap → (∀ v d, Rep cx.T F s.heap v d → Rep cx.T F' s'.heap v d) → (∀ b ∈ wr, ¬ F' b) →
    (∀ v h' tk d, items[j]? = some d → TR F' h' v d → Inv (j + 1) h' → (∀ b o, b ∉ wr → s'.heap.get? b = some o → h'.get? b = some o) → K v { s' with heap := h', toks := tk }) →
    wpAny (model cx.prog cx.w) A (pyNext (.ref I)) (fun r s₁ => match r with | none => N s₁ | some v => wpAny (model cx.prog cx.w) A (letOwnedTupleGo target (.ref I) v) (fun _ s₂ => K v s₂) E s₁) E s'
  done : ∀ (s' : Shared) (K : VP) (N : Shared → Prop) (E : VP), Inv items.length s'.heap → (∀ h' tk, (∀ b o, b ∉ wr → s'.heap.get? b = some o → h'.get? b = some o) → N { s' with heap := h', toks := tk }) →
    wpAny (model cx.prog cx.w) A (pyNext (.ref I)) (fun r s₁ => match r with | none => N s₁ | some v => wpAny (model cx.prog cx.w) A (letOwnedTupleGo target (.ref I) v) (fun _ s₂ => K v s₂) E s₁) E s'
theorem Iter.gen {A : Around} (hh : A.handled = none) {target : Expr} {F₀ F : AP} {s₀ s : Shared} {items : List D} {I : Addr} {fp wr : List Addr} {P : Nat → Value → Prop} {St : Nat → Heap → Prop} (J : Iter cx A F₀ s₀ items I F s fp wr P St) :
    IterG cx A target F₀ s₀ items I F s wr St (Rep cx.T) := by
  refine ⟨J.st, J.s0, J.new, fun j h hs b hb => ?_, fun j h h' hs hk => (J.W A hh).frame _ _ _ hs fun b hb => hk b (J.deps b hb), fun j s' F' K N E hlt hst hrep hnw hQ => ?_, fun s' K N E hst hQ => ?_⟩
  · obtain ⟨o, _, g, _⟩ := J.ty _ _ hs
    exact J.one b hb ▸ ⟨o, g⟩
  · refine (J.W A hh).item j s' _ _ hlt hst fun v h' tk hP hst' hk => ?_
    obtain ⟨d, hd, hr⟩ := J.item j v hP
    obtain ⟨ob, T, g1, g2, g3⟩ := J.ty _ _ hst'
    exact zdH (s := { s' with heap := h', toks := tk }) g1 g2 g3 (hQ v h' tk d hd ((hrep v d hr).mono (fun _ h => h) fun a o f e => hk a o (fun hm => hnw a hm f) e) hst' hk)
  · exact (J.W A hh).done s' _ _ hst fun h' tk hk => hQ h' tk hk
inductive ForI (cx : XCx) (ε : Sc) (env : Env) (F : AP) (s : Shared) (ρ : List Slot) (ad : NAd) (F0 : AP) (h0 : Heap) (wr : List Addr) (St : Nat → Heap → Prop) (items : List D) (go : List D → List Slot → Option (List Slot × Out)) (res : Option (List Slot × Out)) (k : Nat) (s' : Shared) : Prop
  | mk (j : Nat) (F' : AP) (ρ₁ : List Slot) (ad₁ : NAd) (m₁ cm₁ : SV) (hj : j ≤ items.length) (hk : k = items.length - j) (x1 : StepS cx env F s ρ ad F' s' ρ₁ ad₁) (hrep : ∀ v d, Rep cx.T F0 h0 v d → Rep cx.T F' s'.heap v d) (hF : ∀ a, F0 a → F' a) (f1 : Frm cx ε env F' s' ρ₁ ad₁ m₁ cm₁) (hst : St j s'.heap)
    (hwr : ∀ b ∈ wr, ¬ F' b ∧ ¬ Mut env ρ₁ ad₁ b) (hg : go (items.drop j) ρ₁ = res)
set_option genInjectivity false in
structure ForL (cx : XCx) (env : Env) (F0 : AP) (h0 : Heap) (wr : List Addr) (St : Nat → Heap → Prop) (j : Nat) (F4 : AP) (h4 : Heap) (ρ4 : List Slot) (ad4 : NAd) : Prop where
  p1 : ∀ v d, Rep cx.T F0 h0 v d → Rep cx.T F4 h4 v d
  p2 : ∀ a, F0 a → F4 a
  p3 : St j h4
  p4 : ∀ b ∈ wr, ¬ F4 b ∧ ¬ Mut env ρ4 ad4 b
theorem for_gen {target : Expr} {put : D → List Slot → Option (List Slot)} {it : Expr} {bs : List Stmt} {b : S} {pos : Pos} {TR : (Addr → Prop) → Heap → Value → D → Prop} (hb : SoundSs cx ε bs b)
    (hs : ∀ env x, foldedSetIterable it env x = pure x) {n cf A env F s ρ ad m cm} (H : HereS cx ε n cf A env F s ρ ad m cm) {items : List D}
    (ht : ∀ F s ρ m cm ad, HereS cx ε n cf A env F s ρ ad m cm → ∀ v d ρ', TR F s.heap v d → put d ρ = some ρ' → ∀ (Q : Unit → Shared → Prop) (E : VP), (∀ F' s' m' cm', StepS cx env F s ρ ad F' s' ρ' ad → Frm cx ε env F' s' ρ' ad m' cm' → Q () s') → wpAny (model cx.prog cx.w) A (assign target env v) Q E s)
    (hi : ∀ (Q E : VP), (∀ I F' s' wr St, IterG cx A target F s items I F' s' wr St TR → Q (.ref I) s') → wpAny (model cx.prog cx.w) A (eval it env) (fun v s₁ => wpAny (model cx.prog cx.w) A (pyIter v) Q E s₁) E s)
    {ρ' : List Slot} {o : Out}
    (h : forGo put (ex cf b) items ρ = some (ρ', o)) {Q : Flow → Shared → Prop} {E : VP} (hQ : PostS cx ε env F s ρ ad ρ' o Q) : wpAny (model cx.prog cx.w) A (exec (.For target it bs [] pos) env) Q E s := by
  refine wpAny_For (hi _ _ fun I F0 s0 wr St J => ?_) (hs env)
  have hx0 : ∀ b ∈ wr, ¬ cx.X b := fun b hb h => by
    obtain ⟨o, e⟩ := H.wd.xex b h
    rw [(J.new b hb).1] at e; cases e
  refine codeAny_forLoop_any (ForI cx ε env F s ρ ad F0 s0.heap wr St items (forGo put (ex cf b)) (some (ρ', o))) (fun k s' hI => ?_) items.length
    ⟨0, F0, ρ, ad, m, cm, Nat.zero_le _, rfl, .ofStep J.st, fun _ _ h => h, fun _ h => h, (H.step J.st).frm, J.i0, fun b hb => ⟨(J.new b hb).2, fun hm => ?_⟩, h⟩
  rotate_left
  · obtain ⟨o, e⟩ := H.frm.isSome hm
    rw [(J.new b hb).1] at e; cases e
  obtain ⟨j, F', ρ₁, ad₁, m₁, cm₁, hj, rfl, x1, hrep, hF, f1, hst, hwr, hg⟩ := hI
  have hwr' : ∀ b ∈ wr, s.heap.get? b = none ∧ ¬ F' b ∧ ¬ Mut env ρ₁ ad₁ b := fun b hb => ⟨(J.new b hb).1, (hwr b hb).1, (hwr b hb).2⟩
  rcases Nat.lt_or_ge j items.length with hlt | hge
  · refine J.next j s' F' _ _ _ hlt hst hrep (fun b hb => (hwr b hb).1) fun v h' tk d hd htr hst' hk => ?_
    obtain ⟨x2, f2⟩ := x1.kept H.ok H.wd f1 hwr' tk hk
    have hdrop : items.drop j = d :: items.drop (j + 1) := by
      have h1 : items[j]? = some items[j] := List.getElem?_eq_getElem hlt
      rw [h1] at hd
      cases hd
      exact List.drop_eq_getElem_cons hlt
    rw [hdrop] at hg
    have keepF : ∀ a o, F' a → s'.heap.get? a = some o → h'.get? a = some o := fun a o f e => hk a o (fun hm => (hwr a hm).1 f) e
    have hr2 : ∀ v d, Rep cx.T F0 s0.heap v d → Rep cx.T F' h' v d := fun v d hr => (hrep v d hr).mono (fun _ h => h) keepF
    cases e2 : put d ρ₁ with
    | none => unfold forGo at hg; rw [e2] at hg; cases hg
    | some ρ₂ =>
    have H2 := H.stepS x2 f2
    refine ht F' _ ρ₁ m₁ cm₁ ad₁ H2 v d ρ₂ htr e2 _ _ fun F3 s3 m3 cm3 x3 f3 => ?_
    have H3 := H2.stepS x3 f3
    have later : ∀ {F4 s4 ρ4 ad4 m4 cm4}, StepS cx env F' { s' with heap := h', toks := tk } ρ₁ ad₁ F4 s4 ρ4 ad4 → Frm cx ε env F4 s4 ρ4 ad4 m4 cm4 →
        ForL cx env F0 s0.heap wr St (j + 1) F4 s4.heap ρ4 ad4 := by
      intro F4 s4 ρ4 ad4 m4 cm4 y f4
      refine ⟨fun v d q => y.rep H2 (hr2 v d q), fun a h => y.sub a (hF a h), J.frame _ _ _ hst' fun b hb ob' e => ?_, fun b hb => ?_⟩
      · rcases hb with hb | hb
        · exact y.keep b ob' e (hx0 b hb) (hwr b hb).2
        · exact y.keep b ob' e (H2.wd.nx b (hF b hb)) fun hm => (f2.notF hm).1 (hF b hb)
      · obtain ⟨ob, g1⟩ := J.live _ _ hst' b hb
        refine ⟨fun h => ?_, fun h => ?_⟩
        · rcases y.new b h with q | q | q
          · exact (hwr b hb).1 q
          · rw [show ({ s' with heap := h', toks := tk } : Shared).heap.get? b = some ob from g1] at q; cases q
          · exact (hwr b hb).2 q
        · rcases y.mu b h with q | q
          · exact (hwr b hb).2 q
          · rw [show ({ s' with heap := h', toks := tk } : Shared).heap.get? b = some ob from g1] at q; cases q
    cases e3 : ex cf b ρ₂ with
    | none => unfold forGo at hg; rw [e2] at hg; simp only [e3] at hg; cases hg
    | some pr =>
    obtain ⟨ρ₃, o3⟩ := pr
    replace hg : (match o3 with
      | .next => forGo put (ex cf b) (items.drop (j + 1)) ρ₃
      | .cont => forGo put (ex cf b) (items.drop (j + 1)) ρ₃
      | .brk => some (ρ₃, .next)
      | .ret d => some (ρ₃, .ret d)) = some (ρ', o) := by
      unfold forGo at hg
      rw [e2] at hg
      simp only [e3] at hg
      cases o3 <;> exact hg
    refine hb n cf A env F3 s3 ρ₂ ad₁ m3 cm3 H3 _ o3 e3 _ _ fun f F4 s4 ad4 m4 cm4 x4 f4 q => ?_
    have x24 := x2.trans (x3.trans x4)
    obtain ⟨p1, p2, p3, p4⟩ := later (x3.trans x4) f4
    have again : forGo put (ex cf b) (items.drop (j + 1)) ρ₃ = some (ρ', o) → ∃ m, m < items.length - j ∧ ForI cx ε env F s ρ ad F0 s0.heap wr St items (forGo put (ex cf b)) (some (ρ', o)) m s4 := fun hg =>
      ⟨items.length - (j + 1), Nat.sub_lt_sub_left hlt (Nat.lt_succ_self j), j + 1, F4, ρ₃, ad4, m4, cm4, hlt, rfl, x24, p1, p2, f4, p3, p4, hg⟩
    cases q with
    | next => exact again hg
    | cont => exact again hg
    | brk => cases hg; exact hQ .next F4 s4 ad4 m4 cm4 x24 f4 .next
    | ret r => cases hg; exact hQ _ F4 s4 ad4 m4 cm4 x24 f4 (.ret r)
  · have ej : j = items.length := Nat.le_antisymm (by assumption) (by assumption)
    subst ej
    rw [List.drop_length] at hg
    cases hg
    refine J.done s' _ _ _ hst fun h' tk hk => ?_
    obtain ⟨x2, f2⟩ := x1.kept H.ok H.wd f1 hwr' tk hk
    exact wpAny_execs_nil (hQ .next F' _ ad₁ m₁ cm₁ x2 f2 .next)
theorem for_any {target : Expr} {put : D → List Slot → Option (List Slot)} {it : Expr} {x : X} {bs : List Stmt} {b : S} {pos : Pos} (ht : SoundA cx ε target put) (hi : SoundI cx ε it x) (hb : SoundSs cx ε bs b)
    (hs : ∀ env x, foldedSetIterable it env x = pure x) {n cf A env F s ρ ad m cm} (H : HereS cx ε n cf A env F s ρ ad m cm) {items : List D} (hit : evI cf x ρ = some items) {ρ' : List Slot} {o : Out}
    (h : forGo put (ex cf b) items ρ = some (ρ', o)) {Q : Flow → Shared → Prop} {E : VP} (hQ : PostS cx ε env F s ρ ad ρ' o Q) : wpAny (model cx.prog cx.w) A (exec (.For target it bs [] pos) env) Q E s :=
  for_gen (TR := Rep cx.T) hb hs H (fun F s ρ m cm ad => ht n cf A env F s ρ ad m cm) (fun Q E k => hi n cf A env F s ρ ad m cm H.here items hit Q E fun I F' s' fp wr P St J => k I F' s' wr St (J.gen H.bud.hd)) h hQ
theorem zbv {x : Str} {i : Nat} {p : Pos} {it : Expr} {y : X} {bs : List Stmt} {b : S} {pos : Pos} (hx : ε.vars.lookup x = some i) (hf : ε.kinds.lookup x ≠ some .free) (hi : SoundI cx ε it y) (hb : SoundSs cx ε bs b)
    (hs : ∀ env x, foldedSetIterable it env x = pure x) : SoundS cx ε (.For (.Name x p) it bs [] pos) (.forE i y b) := by
  intro n cf A env F s ρ ad m cm H ρ' o h Q E hQ
  replace h := (zha cf).symm.trans h
  split at h
  · rename_i items e
    exact for_any (zgb hx hf) hi hb hs H e h hQ
  · cases h
end
section
variable {cx : XCx} {ε : Sc}
theorem evI_seq {cf : CfT} {x : X} {ρ : List Slot} {items : List D} (h : evI cf (.seqI x) ρ = some items) : ∃ r d, ev cf x ρ = some [r] ∧ r.fz = some d ∧ itemsOf d = some items := by
  unfold evI at h
  split at h
  · rename_i l e
    cases h
    replace e := (zaJ _).symm.trans e
    split at e
    · rename_i r e1
      split at e
      · rename_i d e2
        obtain ⟨l', e3, e4⟩ := Option.map_eq_some_iff.mp e
        cases e4
        exact ⟨r, d, e1, e2, e3⟩
      · cases e
    · cases e
  · cases h
theorem zc1 {A : Around} {F₀ F : AP} {s₀ s : Shared} {items : List D} {P : Nat → Value → Prop} {St : Nat → Heap → Prop} {fp : List Addr} {o : Obj} (ok : CxOk cx) (w₀ : Wd cx F₀ s₀) (st : Step cx F₀ s₀ F s)
    (W : ∀ A' : Around, A'.handled = none → Walks cx.prog cx.w A' s.heap.objs.size fp [s.heap.objs.size] items.length P St) (s0 : St 0 (s.heap.push o)) (deps : ∀ b ∈ fp, b = s.heap.objs.size ∨ F b)
    (item : ∀ i v, P i v → ∃ d, items[i]? = some d ∧ Rep cx.T F s.heap v d)
    (ty : ∀ i h, St i h → ∃ o T, h.get? s.heap.objs.size = some o ∧ o.cls = .type T ∧ ["enumerate", "zip", "dict_itemiterator", "dict_reverseitemiterator", "odict_iterator", "itertools.zip_longest", "itertools.pairwise"].contains T = false)
    (hl : items.length ≤ lim) (k : Nat) : Iter cx A F₀ s₀ items s.heap.objs.size F { s with heap := s.heap.push o, toks := k } fp [s.heap.objs.size] P St := by
  have stp := Step.push ok st.wd o k
  have fr := zbe s.heap
  refine ⟨st.trans stp, W, s0, fun b hb => ?_, fun b hb => by simpa using hb, fun b hb => (deps b hb).imp (fun e => by simp [e]) id, fun i v h => ?_, ty, hl⟩
  · have e : b = s.heap.objs.size := by simpa using hb
    subst e
    exact ⟨st.fresh (st.wd.newNotX fr) fr, st.wd.newNotF fr⟩
  · obtain ⟨d, e, r⟩ := item i v h
    exact ⟨d, e, stp.rep st.wd r⟩
theorem zj2 {A : Around} (hh : A.handled = none) {F₀ F : AP} {s₀ s : Shared} (ok : CxOk cx) (w₀ : Wd cx F₀ s₀) (st : Step cx F₀ s₀ F s) {v : Value} {d : D} (q : Rep cx.T F s.heap v d) {items : List D} (hi : itemsOf d = some items)
    {Q E : VP} (hQ : ∀ I F' s' fp wr P St, Iter cx A F₀ s₀ items I F' s' fp wr P St → Q (.ref I) s') : wpAny (model cx.prog cx.w) A (pyIter v) Q E s := by
  cases q with
  | @list a vs n l f g z q =>
    cases hi
    have hne : a ≠ s.heap.objs.size := Nat.ne_of_lt (Heap.lt_size g)
    have el : items.length = vs.toArray.size := by rw [List.size_toArray]; exact q.length.symm
    refine wpAny_pyIter_list (zbJ g) (hQ _ F _ [s.heap.objs.size, a] [s.heap.objs.size] (fun i v => vs.toArray[i]? = some v) (fun i h => h.IsListIter s.heap.objs.size a i ∧ h.IsList a vs.toArray) ?_)
    refine zc1 (P := fun i v => vs.toArray[i]? = some v) ok w₀ st (fun A' hh => el ▸ Walks.list hh _ a hne vs.toArray) ⟨⟨_, Heap.get?_push_size _ rfl, rfl, rfl⟩, (zbJ g).push _⟩ (fun b hb => ?_) (fun i v h => ?_) (fun i h hs => ?_) (by rw [← q.length]; exact z) s.toks
    · simp only [List.mem_cons, List.not_mem_nil, or_false] at hb
      rcases hb with rfl | rfl
      · exact .inl rfl
      · exact .inr f
    · rw [List.getElem?_toArray] at h
      exact q.getV h
    · obtain ⟨⟨o, g, c, _⟩, _⟩ := hs
      exact ⟨o, _, g, c, by decide⟩
  | @tup a vs n l f g z q =>
    cases hi
    have hne : a ≠ s.heap.objs.size := Nat.ne_of_lt (Heap.lt_size g)
    have el : items.length = vs.toArray.size := by rw [List.size_toArray]; exact q.length.symm
    have ht : s.heap.IsTuple a vs.toArray := ⟨_, g, rfl, n, rfl⟩
    refine wpAny_pyIter_tuple ht (hQ _ F _ [s.heap.objs.size, a] [s.heap.objs.size] (fun i v => vs.toArray[i]? = some v) (fun i h => h.IsTupleIter s.heap.objs.size a i ∧ h.IsTuple a vs.toArray) ?_)
    refine zc1 (P := fun i v => vs.toArray[i]? = some v) ok w₀ st (fun A' hh => el ▸ Walks.tuple hh _ a hne vs.toArray) ⟨⟨_, Heap.get?_push_size _ rfl, rfl, rfl⟩, ht.push _⟩ (fun b hb => ?_) (fun i v h => ?_) (fun i h hs => ?_) (by rw [← q.length]; exact z) s.toks
    · simp only [List.mem_cons, List.not_mem_nil, or_false] at hb
      rcases hb with rfl | rfl
      · exact .inl rfl
      · exact .inr f
    · rw [List.getElem?_toArray] at h
      exact q.getV h
    · obtain ⟨⟨o, g, c, _⟩, _⟩ := hs
      exact ⟨o, _, g, c, by decide⟩
  | @str l t p z =>
    cases hi
    have el : (l.map fun c => D.str [c]).length = (PySem.Str.mk l.toArray).cps.size := by simp
    have item : ∀ i v, SignAt ⟨l.toArray⟩ i v → ∃ d, (l.map fun c => D.str [c])[i]? = some d ∧ Rep cx.T F s.heap v d := by
      rintro i v ⟨c, u, e, rfl⟩
      rw [show (PySem.Str.mk l.toArray).cps = l.toArray from rfl, List.getElem?_toArray] at e
      refine ⟨.str [c], by rw [List.getElem?_map, e]; rfl, .str (l := [c]) u (fun c' h => ?_) (by simp [lim])⟩
      simp only [List.mem_cons, List.not_mem_nil, or_false] at h
      subst h
      exact p _ (List.mem_of_getElem? e)
    have hz : (l.map fun c => D.str [c]).length ≤ lim := by simpa using z
    have deps : ∀ b ∈ [s.heap.objs.size], b = s.heap.objs.size ∨ F b := fun b hb => .inl (by simpa using hb)
    cases ha : (PySem.Str.mk l.toArray).cps.all (· < 128)
    · refine wpAny_pyIter_wide ha (hQ _ F _ _ _ _ _ (zc1 ok w₀ st (fun A' hh => el ▸ Walks.strWide hh _ ⟨l.toArray⟩ t) ⟨_, Heap.get?_push_size _ rfl, rfl, rfl⟩ deps item (fun i h hs => ?_) hz s.toks))
      obtain ⟨o, g, c, _⟩ := hs
      exact ⟨o, _, g, c, by decide⟩
    · refine wpAny_pyIter_ascii ha (hQ _ F _ _ _ _ _ (zc1 ok w₀ st (fun A' hh => el ▸ Walks.strAscii hh _ ⟨l.toArray⟩ t) ⟨_, Heap.get?_push_size _ rfl, rfl, rfl⟩ deps item (fun i h hs => ?_) hz s.toks))
      obtain ⟨o, g, c, _⟩ := hs
      exact ⟨o, _, g, c, by decide⟩
  | _ => cases hi
theorem zbm {e : Expr} {x : X} (h : Sound cx ε e x) : SoundI cx ε e (.seqI x) := by
  intro n cf A env F s ρ ad m cm H items hi Q E hQ
  obtain ⟨r, d, e1, e2, e3⟩ := evI_seq hi
  refine h.ev n cf A env F s ρ ad m cm H r e1 _ _ fun v F' s' st q => ?_
  obtain ⟨F'', st', _, q'⟩ := st.fz H.ok H.wd q e2
  exact zj2 H.bud.hd H.ok H.wd st' q' e3 hQ
theorem zhC {A : Around} (hh : A.handled = none) {F₀ F : AP} {s₀ s : Shared} (ok : CxOk cx) (w₀ : Wd cx F₀ s₀) (st : Step cx F₀ s₀ F s) {r : Addr} {a b c : Int} {t u v : Tok} (hr : IsRange s.heap r a b c t u v) (hs : Builtin.Range.small a b c = true)
    {k : Nat} (hk : Builtin.Range.rangeSize a b c = (k : Int)) (hl : k ≤ lim)
    {Q E : VP} (hQ : ∀ I F' s' fp wr P St, Iter cx A F₀ s₀ ((upTo k a c).map .int) I F' s' fp wr P St → Q (.ref I) s') : wpAny (model cx.prog cx.w) A (pyIter (.ref r)) Q E s := by
  have el : ((upTo k a c).map D.int).length = k := by simp [upTo]
  let P : Nat → Value → Prop := fun i v => i < k ∧ ∃ t, v = .int (a + i * c) t
  have W : ∀ A' : Around, A'.handled = none → Walks cx.prog cx.w A' s.heap.objs.size [s.heap.objs.size] [s.heap.objs.size] k P (fun i h => IsRangeIter h s.heap.objs.size (a + (i : Nat) * c) ((k : Int) - (i : Nat)) c) := fun A' hh => (Walks.range hh _ a c k).bound
  refine wpAny_pyIter_range hr hs (hQ _ F _ _ _ _ _ (zc1 (P := P) ok w₀ st (by rw [el]; exact W) ?_ (fun b hb => .inl (by simpa using hb)) ?_ (fun i h hs => ⟨_, _, hs, rfl, by decide⟩) (by rw [el]; exact hl) s.toks))
  · have := Heap.get?_push_size s.heap (o := { cls := .type "range_iterator", data := .fields #[rawInt a, rawInt (Builtin.Range.rangeSize a b c), rawInt c] }) rfl
    show IsRangeIter _ _ _ _ _
    rw [hk] at this
    simpa [IsRangeIter, hk] using this
  · rintro i v ⟨hi, t, rfl⟩
    refine ⟨.int (a + i * c), ?_, .int _ t⟩
    rw [List.getElem?_map]
    unfold upTo
    rw [List.getElem?_map, List.getElem?_range hi]
    simp [Int.mul_comm]
theorem zcW {i : Int} (h : small i = true) : -1000000000 ≤ i ∧ i ≤ 1000000000 := by
  unfold small at h
  simpa using h
theorem zdK {z : Int} (h : z ≤ 1000000) : z.toNat ≤ lim := by unfold lim; omega
theorem zgO (a b : Int) : (if a < b then b - a else 0) = ((b - a).toNat : Int) := by split <;> omega
theorem lo62 {i : Int} (h : -1000000000 ≤ i) : -(2 ^ 62) ≤ i := Int.le_trans (by decide) h
theorem hi62 {i : Int} (h : i ≤ 1000000000) : i < 2 ^ 62 := Int.lt_of_le_of_lt h (by decide)
inductive RangeI : List D → List D → Prop
  | one {i : Int} : -1000000000 ≤ i → i ≤ 1000000000 → i ≤ 1000000 → RangeI [.int i] (rangeL 0 i)
  | two {a i : Int} : -1000000000 ≤ a → a ≤ 1000000000 → -1000000000 ≤ i → i ≤ 1000000000 → i - a ≤ 1000000 → RangeI [.int a, .int i] (rangeL a i)
  | down {a i : Int} : -1000000000 ≤ a → a ≤ 1000000000 → -1000000000 ≤ i → i ≤ 1000000000 → a - i ≤ 1000000 → RangeI [.int a, .int i, .int (-1)] (rangeDown a i)
theorem zif {ds l : List D} (hl : opRange ds = some l) : RangeI ds l := by
  rcases ds with _ | ⟨a0, t⟩
  · cases hl
  cases a0 <;> try (cases hl; done)
  rename_i a
  rcases t with _ | ⟨a1, t⟩
  · rename Int => i
    replace hl : (if (small i && decide (i ≤ 1000000)) = true then some (rangeL 0 i) else none) = some l := hl
    split at hl
    · rename_i hi
      cases hl
      obtain ⟨h1, h2⟩ := Bool.and_eq_true _ _ ▸ hi
      obtain ⟨h3, h4⟩ := zcW h1
      exact .one h3 h4 (of_decide_eq_true h2)
    · cases hl
  cases a1 <;> try (cases hl; done)
  rename_i i
  rcases t with _ | ⟨a2, t⟩
  · replace hl : (if (small a && small i && decide (i - a ≤ 1000000)) = true then some (rangeL a i) else none) = some l := hl
    split at hl
    · rename_i hi
      cases hl
      obtain ⟨h12, h5⟩ := Bool.and_eq_true _ _ ▸ hi
      obtain ⟨h1, h2⟩ := Bool.and_eq_true _ _ ▸ h12
      obtain ⟨h3, h4⟩ := zcW h1
      obtain ⟨h6, h7⟩ := zcW h2
      exact .two h3 h4 h6 h7 (of_decide_eq_true h5)
    · cases hl
  cases a2 <;> try (cases hl; done)
  rename_i c
  rcases t with _ | ⟨a3, t⟩ <;> try (cases hl; done)
  replace hl : (if c = -1 ∧ small a ∧ small i ∧ a - i ≤ 1000000 then some (rangeDown a i) else none) = some l := hl
  split at hl
  · rename_i hi
    cases hl
    obtain ⟨rfl, h1, h2, h5⟩ := hi
    obtain ⟨h3, h4⟩ := zcW h1
    obtain ⟨h6, h7⟩ := zcW h2
    exact .down h3 h4 h6 h7 h5
  · cases hl
theorem zew {A : Around} {F₀ F : AP} {s₀ s : Shared} (ok : CxOk cx) (st : Step cx F₀ s₀ F s) {vs : List Value} {ds : List D} (q : BRepL cx F s.heap vs ds) {l : List D} (hl : opRange ds = some l)
    {Q E : VP} (hQ : ∀ (r : Addr) (a b c : Int) (t u v : Tok) (k : Nat) (s' : Shared), Step cx F₀ s₀ F s' → IsRange s'.heap r a b c t u v → Builtin.Range.small a b c = true → Builtin.Range.rangeSize a b c = (k : Int) → k ≤ lim → l = (upTo k a c).map .int → Q (.ref r) s') :
    wpAny (model cx.prog cx.w) A (call (.type "range") vs) Q E s := by
  cases zif hl with
  | @one i h3 h4 h2 =>
    obtain ⟨v, rfl, q1⟩ := q.one
    obtain ⟨t, rfl⟩ := q1.int_inv
    exact call_range_1 (hQ _ 0 i 1 _ _ _ (i - 0).toNat _ (st.trans (Step.push ok st.wd ({ cls := .type "range", data := .fields #[.int 0 s.toks, .int i t, .int 1 (s.toks + 1)] } : Obj) (s.toks + 1 + 1))) (IsRange.new s.heap 0 i 1 _ _ _) (small_one (by decide) (by decide) (lo62 h3) (hi62 h4)) (by rw [rangeSize_one, zgO]) (zdK (by rw [Int.sub_zero]; exact h2)) rfl)
  | @two a i h3 h4 h6 h7 h5 =>
    obtain ⟨v, v', rfl, q1, q2⟩ := q.two
    obtain ⟨t, rfl⟩ := q1.int_inv
    obtain ⟨u, rfl⟩ := q2.int_inv
    exact call_range_2 (hQ _ a i 1 _ _ _ (i - a).toNat _ (st.trans (Step.push ok st.wd ({ cls := .type "range", data := .fields #[.int a t, .int i u, .int 1 s.toks] } : Obj) (s.toks + 1))) (IsRange.new s.heap a i 1 _ _ _) (small_one (lo62 h3) (hi62 h4) (lo62 h6) (hi62 h7)) (by rw [rangeSize_one, zgO]) (zdK h5) rfl)
  | @down a i h3 h4 h6 h7 h5 =>
    cases q with
    | cons q1 q => cases q with | cons q2 q => cases q with | cons q3 q =>
    cases q
    obtain ⟨t, rfl⟩ := q1.int_inv
    obtain ⟨u, rfl⟩ := q2.int_inv
    obtain ⟨x, rfl⟩ := q3.int_inv
    exact call_range_3 (by decide) (hQ _ a i (-1) _ _ _ (a - i).toNat _ (st.trans (Step.push ok st.wd ({ cls := .type "range", data := .fields #[.int a t, .int i u, .int (-1) x] } : Obj) s.toks)) (IsRange.new s.heap a i (-1) _ _ _) (PySem.W.small_down (lo62 h3) (hi62 h4) (lo62 h6) (hi62 h7)) (PySem.W.rangeSize_downNat a i) (zdK h5) rfl) (Or.inl (PyProof.noPylong_small (by decide)))
theorem zhQ {A : Around} {n : Nat} (hb : BudE n A) {F₀ F : AP} {s₀ s : Shared} (ok : CxOk cx) (w₀ : Wd cx F₀ s₀) (st : Step cx F₀ s₀ F s) {vs : List Value} {ds : List D} (q : BRepL cx F s.heap vs ds) {l : List D} (hl : opRange ds = some l)
    {Q E : VP} (hQ : ∀ I F' s' fp wr P St, Iter cx A F₀ s₀ l I F' s' fp wr P St → Q (.ref I) s') :
    wpAny (model cx.prog cx.w) A (call (.type "range") vs) (fun v s₁ => wpAny (model cx.prog cx.w) A (pyIter v) Q E s₁) E s :=
  zew ok st q hl fun r a b c t u v k s' st' hr hs hk hl' e => zhC hb.hd ok w₀ st' hr hs hk hl' (e ▸ hQ)
theorem ziY {cf : CfT} {x : X} {ρ : List Slot} {items : List D} (h : evI cf (.rangeI x) ρ = some items) : ∃ rs, ev cf x ρ = some rs ∧ opRange (rs.map R.ds) = some items := by
  unfold evI at h
  split at h
  · rename_i l e
    cases h
    replace e := (zal _).symm.trans e
    split at e
    · rename_i rs e1
      obtain ⟨l', e3, e4⟩ := Option.map_eq_some_iff.mp e
      cases e4
      exact ⟨rs, e1, e3⟩
    · cases e
  · cases h
theorem za6 {p pos : Pos} {es : List Expr} {x : X} (hk : ε.kinds.lookup ("range" : Str) = some .globalImplicit) (hg : cx.mg ("range" : Str) = none) (h : SoundL cx ε es x false) : SoundI cx ε (.Call (.Name "range" p) es [] pos) (.rangeI x) := by
  intro n cf A env F s ρ ad m cm H items hi Q E hQ
  obtain ⟨rs, e1, e2⟩ := ziY hi
  rw [za3 (by intro _ _ _ e; cases e)]
  refine wb (zbQ H hk hg (by decide) (v := .type "range") (by rfl) (by decide) ?_)
  refine PyProof.Rows.callWith_type (zbf h) (zbu h H e1 fun vs F' s' st q => ?_)
  exact zhQ H.bud H.ok H.wd st q.brep e2 hQ
end
section
variable {cx : XCx} {ε : Sc} {n : Nat} {cf : CfT} {A : Around} {env : Env} {F F₀ F' : AP} {s s₀ s' : Shared} {ρ ρ' : List Slot} {ad ad' : NAd} {m cm m' cm' : SV}
theorem SlotRep.own_inv {h : Heap} {i : Nat} {ov : Option Value} {l : List D} (hd : dSlot i = false) (q : SlotRep cx F h ad i ov (.own l)) : ov = some (.ref (ad i)) ∧ ∃ vs k, h.get? (ad i) = some (lobj vs.toArray k) ∧ vs.length ≤ lim ∧ RepL cx.T F h vs l := by
  cases q with
  | own _ _ g z q => exact ⟨rfl, _, _, g, z, q⟩
  | dic _ _ _ _ _ _ hd' => rw [hd] at hd'; cases hd'
inductive OwnNow (cx : XCx) (F : AP) (h : Heap) (a : Addr) (l : List D) : Prop
  | mk (vs : List Value) (k : Nat) (g : h.get? a = some (lobj vs.toArray k)) (z : vs.length ≤ lim) (q : RepL cx.T F h vs l)
theorem zeV (H : HereS cx ε n cf A env F s ρ ad m cm) {x : Str} {i : Nat} (hx : ε.vars.lookup x = some i) {l : List D} (hi : ownAt ρ i = some l) : OwnNow cx F s.heap (ad i) l := by
  have hs := (zcu hi).1
  rcases H.frm.en.vars x i hx with ⟨_, q⟩ | ⟨_, _, q⟩ <;> rw [hs] at q <;> exact (let ⟨vs, k, g, z, q⟩ := (q.own_inv (zcu hi).2.2).2; ⟨vs, k, g, z, q⟩)
theorem zg0 (H : HereS cx ε n cf A env F s ρ ad m cm) {x : Str} {i : Nat} {p : Pos} (hx : ε.vars.lookup x = some i) (hn : (x == ("__classdict__" : Str)) = false) (hd : (x == ("__debug__" : Str)) = false) {l : List D} (hi : ownAt ρ i = some l)
    {Q E : VP} (h : Q (.ref (ad i)) s) : wpAny (model cx.prog cx.w) A (eval (.Name x p) env) Q E s := by
  have hs := (zcu hi).1
  refine wpAny_Name (zdG H.here hx hn (fun v q => ?_) (by rw [hs]; intro e; cases e)) hd
  rw [hs] at q
  cases (q.own_inv (zcu hi).2.2).1
  exact h
theorem zhx (H₀ : HereS cx ε n cf A env F₀ s₀ ρ ad m cm) (st : Step cx F₀ s₀ F s) {i : Nat} {l : List D} (hs : slotAt ρ i = .own l) {h' : Heap} (sb : Heap.SameBut (ad i) s.heap h') {l' : List D} (is : ∃ o, h'.get? (ad i) = some o)
    (key : (∀ a o, F a → s.heap.get? a = some o → h'.get? a = some o) → ∀ ov, SlotRep cx F s.heap ad i ov (.own l) → SlotRep cx F h' ad i ov (.own l')) (k : Nat) :
    StepS cx env F₀ s₀ ρ ad F { s with heap := h', toks := k } (ρ.set i (.own l')) ad ∧ Frm cx ε env F { s with heap := h', toks := k } (ρ.set i (.own l')) ad m cm := by
  have H := H₀.step st
  have f := H.frm
  have hb : Mut env ρ ad (ad i) := .inr (.inr ⟨i, l, hs, rfl⟩)
  obtain ⟨nf, nx, _, nl, nc⟩ := f.own i l hs
  obtain ⟨w', keep⟩ := zgp H hb sb k
  refine ⟨zdR H₀ st hb sb k (fun _ _ => .inl hb) (fun _ _ => rfl), Frm.put H hb sb k (f.en.ns.sameBut sb (Ne.symm nl)) (fun n c hc => ?_) (fun _ _ _ _ => ⟨rfl, rfl⟩) (fun y hy => ?_) (fun _ _ => rfl) (.inl rfl) (fun j l2 hj hne e => hne (f.oinj j i _ _ hj hs e)) (fun _ _ => ?_)⟩
  · obtain ⟨o, g, d⟩ := f.en.cells n c hc
    exact ⟨o, (sb.2 c fun e => nc n (e ▸ hc)).trans g, d⟩
  · refine ⟨fun hk => ?_, fun hk => ?_⟩
    · rcases f.en.vars y i hy with ⟨_, q⟩ | ⟨e, _⟩
      · exact key keep _ (hs ▸ q)
      · rw [hk] at e; rcases e with e | e <;> cases e
    · rcases f.en.vars y i hy with ⟨e, _⟩ | ⟨_, _, q⟩
      · exact absurd e hk
      · exact key keep _ (hs ▸ q)
  · exact ⟨nf, nx, is, nl, nc, fun j l2 hj hs2 e => hj (f.oinj j i _ _ hs2 hs e)⟩
theorem zdZ (H₀ : HereS cx ε n cf A env F₀ s₀ ρ ad m cm) (st : Step cx F₀ s₀ F s) {i : Nat} {l : List D} (hi : ownAt ρ i = some l) {h' : Heap} (sb : Heap.SameBut (ad i) s.heap h') {vs' : List Value} {k' : Nat} {l' : List D}
    (hl' : h'.get? (ad i) = some (lobj vs'.toArray k')) (z : vs'.length ≤ lim) (q' : RepL cx.T F s.heap vs' l') (k : Nat) :
    StepS cx env F₀ s₀ ρ ad F { s with heap := h', toks := k } (ρ.set i (.own l')) ad ∧ Frm cx ε env F { s with heap := h', toks := k } (ρ.set i (.own l')) ad m cm := by
  obtain ⟨hs, _, hd⟩ := zcu hi
  obtain ⟨nf, nx, _, _, _⟩ := (H₀.step st).frm.own i l hs
  refine zhx H₀ st hs sb ⟨_, hl'⟩ (fun keep ov q => ?_) k
  rw [(q.own_inv hd).1]
  exact .own nf nx hl' z (q'.mono (fun _ h => h) keep) hd
theorem zgR {h : Heap} {a : Addr} {vs : List Value} {k : Nat} (g : h.get? a = some (lobj vs.toArray k)) (f : Array Value → Array Value) (ws : List Value) (hf : f vs.toArray = ws.toArray) :
    ∃ k', (h.update a (Obj.mapSeq f)).get? a = some (lobj ws.toArray k') := by
  have := IsL.update (n := k) (items := vs.toArray) (show IsL h a vs.toArray k from g) f
  rw [hf] at this
  exact ⟨_, this⟩
theorem exprS {e : Expr} {pos : Pos} {Q : Flow → Shared → Prop} {E : VP} (hi : env.scope.kind = .function) (hs : swapsWith e none pos.line env = pure false)
    (h : wpAny (model cx.prog cx.w) A (eval e env) (fun v s' => (∀ a, v ≠ .ref a) ∧ Q .next s') E s) : wpAny (model cx.prog cx.w) A (exec (.Expr e pos) env) Q E s := by
  refine wpAny_Expr (wpAny_mono h (fun v s' h' => ?_) fun _ _ e => e) ?_ hs
  · cases v <;> first | exact h'.2 | exact absurd rfl (h'.1 _)
  · unfold interactive; rw [hi]; rfl
end
section
variable {cx : XCx} {ε : Sc}
theorem zkd {cf : CfT} {y : X} {ρ : List Slot} {r : R} (h : ev cf y ρ = some [r]) : ev cf (.cons y .nil) ρ = some [r] := by
  rw [zaA, h]; rfl
theorem arg1 {n cf A env F s ρ ad m cm} (H : Here cx ε n cf A env F s ρ ad m cm) {e : Expr} {y : X} {pos : Pos} {f : Value} (h : Sound cx ε e y) (hst : starred e = false) {d : D} (hd : ev1 cf y ρ = some d) {Q : Args → Shared → Prop} {E : VP}
    (hQ : ∀ v F' s', Step cx F s F' s' → Rep cx.T F' s'.heap v d → Q ⟨[v], []⟩ s') : wpAny (model cx.prog cx.w) A (evalArgs f true (backTo pos (starEach [e] env)) []) Q E s := by
  obtain ⟨r, e1, e2⟩ := zgu hd
  refine zbu (SoundL.cons h hst .nil) H (zkd e1) fun vs F' s' st q => ?_
  obtain ⟨F'', st', _, q'⟩ := zfP H.ok H.wd st (fun _ h => h) q (ds := [d]) (by unfold fzAll; rw [e2]; rfl)
  cases q' with
  | cons a b => cases b; exact hQ _ F'' s' st' a
theorem zbi {x : Str} {i : Nat} {e : Expr} {y : X} {p apos pos pos' : Pos} (hx : ε.vars.lookup x = some i) (hn : (x == ("__classdict__" : Str)) = false) (hd : (x == ("__debug__" : Str)) = false) (hl : (apos.endLine == pos.line) = true)
    (h : Sound cx ε e y) (hst : starred e = false) : SoundS cx ε (.Expr (.Call (.Attribute (.Name x p) "append" apos) [e] [] pos) pos') (.append i y) := by
  intro n cf A env F s ρ ad m cm H ρ' o he Q E hQ
  replace he := (zeE cf).symm.trans he
  split at he
  · rename_i d l e1 e2
    split at he
    · rename_i hz
      cases he
      refine exprS H.frm.en.kind rfl ?_
      refine zch rfl hl (by simp) (by rw [zbf (SoundL.cons h hst .nil)]) ?_
      refine zg0 H hx hn hd e2 ?_
      obtain ⟨vs, k, g, _, _⟩ := zeV H hx e2
      refine Calls.getMethod_list_append g rfl rfl ?_
      refine Calls.callWith_builtin (zbf (SoundL.cons h hst .nil)) (arg1 H.here h hst e1 fun v F' s' st q => ?_)
      obtain ⟨vs, k, g, z, qs⟩ := zeV (H.step st) hx e2
      show wpAny _ _ (call (.builtin "list.append") [.ref (ad i), v]) _ _ s'
      have hlen : vs.length = l.length := qs.length
      refine call_meets PySem.F.slot_list_append ⟨_, g, rfl⟩ PySem.F.entry_list_append (PySem.F.args_list_append_2 _ _) (list_append (ad i) vs.toArray k v (by rw [List.size_toArray]; exact zba z)) ⟨g, ?_⟩
      refine ⟨(fun a e => nomatch e), ?_⟩
      obtain ⟨k', g'⟩ := zgR g (fun x => x.push v) (vs ++ [v]) (by simp)
      obtain ⟨x1, f1⟩ := zdZ H st e2 (Heap.SameBut.update ..) g' (by simp; omega) (qs.append (.cons q .nil)) s'.toks
      exact hQ .next F' _ ad m cm x1 f1 .next
    · cases he
  · cases he
end
section
variable {cx : XCx} {ε : Sc}
theorem zfz {x y : Str} {i j : Nat} {p p' apos pos : Pos} (hx : ε.vars.lookup x = some i) (hf : ε.kinds.lookup x ≠ some .free) (hy : ε.vars.lookup y = some j) (hn : (y == ("__classdict__" : Str)) = false) (hd : (y == ("__debug__" : Str)) = false) :
    SoundS cx ε (.Assign [.Name x p'] (.Attribute (.Name y p) "append" apos) pos) (.alias i j) := by
  intro n cf A env F s ρ ad m cm H ρ' o he Q E hQ
  replace he := (zfT cf).symm.trans he
  split at he
  · rename_i l e1
    cases he
    refine wpAny_Assign_Name ?_ rfl
    rw [arm_eval_Attribute]
    show wpAny _ _ (do
      let o ← attributeBase (.Name y p) "append" env (eval (.Name y p) env)
      standAt apos.atName
      let r ← holding [o] (getAttr o "append" true)
      letTemporaryGo (.Name y p) o r
      pure r) _ _ _
    rw [zdm rfl]
    refine wb (zg0 H hy hn hd e1 ?_)
    obtain ⟨vs, k, g, z, qs⟩ := zeV H hy e1
    refine wb (wpAny_standAt (wb (wpAny_holding (zei g ?_))))
    refine wb (wpAny_pure (wpAny_pure ?_))
    have st := Step.push H.ok H.wd (appObj (ad j)) (s.toks + 1)
    have g' : (s.heap.push (appObj (ad j))).get? s.heap.objs.size = some (appObj (ad j)) := Heap.get?_push_size _ rfl
    have st' := st.freeze H.ok H.wd (zbe _) g'
    refine zdM H st' hx hf (sl := .app j) (ad' := ad) (fun _ _ => rfl) (.inl rfl) (fun h' hk => .app (.inr rfl) (hk _ _ (.inl (.inr rfl)) g') rfl) (fun _ e => nomatch e) fun s'' m' cm' x f => hQ .next _ s'' ad m' cm' x f .next
  · cases he
theorem zaV {x y : Str} {i j : Nat} {e : Expr} {z : X} {p pos pos' : Pos} (hx : ε.vars.lookup x = some i) (hy : ε.vars.lookup y = some j) (hn : (x == ("__classdict__" : Str)) = false) (hd : (x == ("__debug__" : Str)) = false)
    (h : Sound cx ε e z) (hst : starred e = false) : SoundS cx ε (.Expr (.Call (.Name x p) [e] [] pos) pos') (.appendVia i j z) := by
  intro n cf A env F s ρ ad m cm H ρ' o he Q E hQ
  replace he := (zc4 cf).symm.trans he
  split at he
  · rename_i j' e0
    split at he
    · rename_i ej
      subst ej
      split at he
      · rename_i d l e1 e2
        split at he
        · rename_i hz
          cases he
          have hs : slotAt ρ i = .app j' := by unfold slotAt; simp [List.getD, e0]
          refine exprS H.frm.en.kind rfl ?_
          rw [za3 (by intro _ _ _ e; cases e)]
          refine wb (wpAny_Name (zdG H.here hx hn (fun v q => ?_) (by rw [hs]; intro e; cases e)) hd)
          rw [hs] at q
          cases q with
          | @app b o _ fb g eo =>
          subst eo
          refine zel (l := ad j') (zbf (SoundL.cons h hst .nil)) (arg1 H.here h hst e1 fun v F' s' st q => ?_)
          have g' := st.keep _ _ g (H.wd.nx _ fb)
          refine ⟨g', ?_⟩
          obtain ⟨vs, k, gl, z, qs⟩ := zeV (H.step st) hy e2
          have hlen : vs.length = l.length := qs.length
          refine wpAny_call (zhU g' gl (zgA gl (by rw [List.size_toArray]; exact zba z) ?_))
          refine ⟨(fun a e => nomatch e), ?_⟩
          obtain ⟨k', gk⟩ := zgR gl (fun x => x.push v) (vs ++ [v]) (by simp)
          obtain ⟨x1, f1⟩ := zdZ H st e2 (Heap.SameBut.update ..) gk (by simp; omega) (qs.append (.cons q .nil)) s'.toks
          exact hQ .next F' _ ad m cm x1 f1 .next
        · cases he
      · cases he
    · cases he
  · cases he
theorem zes {x : Str} {i : Nat} {e : Expr} {z : X} {p pos : Pos} (hx : ε.vars.lookup x = some i) (hf : ε.kinds.lookup x ≠ some .free) (hn : (x == ("__classdict__" : Str)) = false) (h : Sound cx ε e z) :
    SoundS cx ε (.AugAssign (.Name x p) .Add e pos) (.aug i z) := by
  intro n cf A env F s ρ ad m cm H ρ' o he Q E hQ
  replace he := (ziV cf).symm.trans he
  split at he
  · rename_i a b e0 e1
    split at he
    · rename_i hz
      cases he
      have hs : slotAt ρ i = .val (.str a) := by unfold slotAt; simp [List.getD, e0]
      refine wpAny_AugAssign_Name (zdG H.here hx hn (fun v q => ?_) (by rw [hs]; intro e; cases e))
      rw [hs] at q
      cases q with
      | val q =>
      cases q with
      | str t pa za =>
      refine zd7 H h e1 fun v F' s' st q => ?_
      cases q with
      | str u pb zb =>
      refine PyProof.Rows.iadd_str (fun t' tk => ?_) (by
        show a.toArray.size + b.toArray.size ≤ sizeLine
        rw [List.size_toArray, List.size_toArray]; exact zba hz)
      have e : (PySem.Str.mk a.toArray ++ PySem.Str.mk b.toArray) = PySem.Str.mk (a ++ b).toArray := by
        show PySem.Str.mk (a.toArray ++ b.toArray) = _
        simp
      rw [e]
      have st2 := st.toks tk
      have r : Rep cx.T F' s'.heap (.str ⟨(a ++ b).toArray⟩ t') (.str (a ++ b)) := .str _ (fun c hc => (List.mem_append.mp hc).elim (pa c) (pb c)) (by rw [List.length_append]; exact hz)
      exact zb9 H st2 hx hf r fun s'' m' cm' x f => hQ .next F' s'' ad m' cm' x f .next
    · cases he
  · cases he
end
inductive Stores (cx : XCx) (ε : Sc) (A : Around) (env : Env) : List (Value → Sem Unit) → List Nat → Prop
  | nil : Stores cx ε A env [] []
  | cons {f : Value → Sem Unit} {fs : List (Value → Sem Unit)} {x : Str} {i : Nat} {is : List Nat} : ε.vars.lookup x = some i → ε.kinds.lookup x ≠ some .free →
      (∀ (v : Value) (Q : Unit → Shared → Prop) (E : VP) (s : Shared), wpAny (model cx.prog cx.w) A (storeName env x v) Q E s → wpAny (model cx.prog cx.w) A (f v) Q E s) → Stores cx ε A env fs is → Stores cx ε A env (f :: fs) (i :: is)
section
variable {cx : XCx} {ε : Sc}
theorem Stores.run {n cf A env} {fs : List (Value → Sem Unit)} {is : List Nat} (S : Stores cx ε A env fs is) : ∀ {F s ρ ad m cm}, HereS cx ε n cf A env F s ρ ad m cm → ∀ {vs : List Value} {ds : List D}, RepL cx.T F s.heap vs ds → ds.length = is.length → ∀ {Q : Unit → Shared → Prop} {E : VP},
    (∀ F' s' m' cm', StepS cx env F s ρ ad F' s' (setAll ρ is ds) ad → Frm cx ε env F' s' (setAll ρ is ds) ad m' cm' → Q () s') → wpAny (model cx.prog cx.w) A (assignInOrder fs vs) Q E s := by
  induction S with
  | nil =>
    intro F s ρ ad m cm H vs ds q hl Q E hQ
    cases ds with
    | nil => cases q; exact wpAny_pure (hQ F s m cm (StepS.refl H.wd) H.frm)
    | cons _ _ => cases hl
  | @cons f fs x i is hx hf hs S ih =>
    intro F s ρ ad m cm H vs ds q hl Q E hQ
    cases ds with
    | nil => cases hl
    | cons d ds =>
      cases q with
      | @cons v vs _ _ a b =>
      show wpAny _ _ (do holding vs (f v); assignInOrder fs vs) Q E s
      refine wb (wpAny_holding (hs v _ _ _ (zb9 H (Step.refl H.wd) hx hf a fun s' m' cm' x1 f1 => ?_)))
      have H1 := H.stepS x1 f1
      exact ih H1 (x1.repL H b) (by simpa using hl) fun F2 s2 m2 cm2 x2 f2 => hQ F2 s2 m2 cm2 (x1.trans x2) f2
theorem zfi {n cf A env F s ρ ad m cm} (H : HereS cx ε n cf A env F s ρ ad m cm) {a : Addr} {vs : List Value} (ht : s.heap.IsTuple a vs.toArray) {ds : List D} (q : RepL cx.T F s.heap vs ds) {k : Nat} (hk : ds.length = k) {Q : List Value → Shared → Prop} {E : VP}
    (hQ : ∀ vs s', Step cx F s F s' → RepL cx.T F s'.heap vs ds → Q vs s') : wpAny (model cx.prog cx.w) A (unpackItems (.ref a) k none) Q E s := by
  have hk' : k = vs.toArray.size := by rw [List.size_toArray, q.length, hk]
  rw [hk']
  refine wpAny_unpackItems_tuple H.bud.hd ht fun h' he => ?_
  have st : Step cx F s F { s with heap := h' } := Step.grown H.ok H.wd s.toks fun b o e => he b o (Nat.ne_of_lt (Heap.lt_size e)) e
  refine hQ _ _ st ?_
  have := st.repL H.wd q
  simpa using this
theorem zh1 {n cf A env F s ρ ad m cm} (H : HereS cx ε n cf A env F s ρ ad m cm) {elts : List Expr} {k : Nat} {pos : Pos} {a : Addr} {vs : List Value} (ht : s.heap.IsTuple a vs.toArray) {ds : List D} (q : RepL cx.T F s.heap vs ds) {is : List Nat} (hl : ds.length = is.length)
    (hlen : (assignEach elts env).length = is.length) (hst : (assignEach elts env).findIdx? (·.1) = none) (S : Stores cx ε A env ((assignEach elts env).map (·.2)) is) {Q : Unit → Shared → Prop} {E : VP}
    (hQ : ∀ F' s' m' cm', StepS cx env F s ρ ad F' s' (setAll ρ is ds) ad → Frm cx ε env F' s' (setAll ρ is ds) ad m' cm' → Q () s') : wpAny (model cx.prog cx.w) A (assign (.Tuple elts k pos) env (.ref a)) Q E s := by
  rw [arm_assign_Tuple]
  refine wb (wpAny_standAt ?_)
  unfold unpack
  rw [hlen, hst]
  refine wb (wpAny_holding (zfi H ht q hl fun vs s' st q' => ?_))
  have H1 := H.step st
  exact S.run H1 q' hl fun F2 s2 m2 cm2 x2 f2 => hQ F2 s2 m2 cm2 ((StepS.ofStep st).trans x2) f2
theorem zko {T : NAd} {F : AP} {h : Heap} {v : Value} {ds : List D} (q : Rep T F h v (.tup ds)) : ∃ a vs, v = .ref a ∧ h.IsTuple a vs.toArray ∧ RepL T F h vs ds := by
  cases q with
  | tup f g z q => exact ⟨_, _, rfl, ⟨_, g, rfl, _, rfl⟩, q⟩
theorem zhf {n cf A env F s ρ ad m cm} (H : HereS cx ε n cf A env F s ρ ad m cm) {v : Value} {ds : List D} (q : Rep cx.T F s.heap v (.tup ds)) {k : Nat} (hk : ds.length = k) {Q : List Value → Shared → Prop} {E : VP}
    (hQ : ∀ vs s', Step cx F s F s' → RepL cx.T F s'.heap vs ds → Q vs s') : wpAny (model cx.prog cx.w) A (unpackItems v k none) Q E s := by
  obtain ⟨a, vs, rfl, ht, q'⟩ := zko q
  exact zfi H ht q' hk hQ
theorem zhh {n cf A env F s ρ ad m cm} (H : HereS cx ε n cf A env F s ρ ad m cm) {elts : List Expr} {k : Nat} {pos : Pos} {v : Value} {ds : List D} (q : Rep cx.T F s.heap v (.tup ds)) {is : List Nat} (hl : ds.length = is.length)
    (hlen : (assignEach elts env).length = is.length) (hst : (assignEach elts env).findIdx? (·.1) = none) (S : Stores cx ε A env ((assignEach elts env).map (·.2)) is) {Q : Unit → Shared → Prop} {E : VP}
    (hQ : ∀ F' s' m' cm', StepS cx env F s ρ ad F' s' (setAll ρ is ds) ad → Frm cx ε env F' s' (setAll ρ is ds) ad m' cm' → Q () s') : wpAny (model cx.prog cx.w) A (assign (.Tuple elts k pos) env v) Q E s := by
  obtain ⟨a, vs, rfl, ht, q'⟩ := zko q
  exact zh1 H ht q' hl hlen hst S hQ
theorem zep {A : Around} {env : Env} {x : Str} {p : Pos} : ∀ (v : Value) (Q : Unit → Shared → Prop) (E : VP) (s : Shared), wpAny (model cx.prog cx.w) A (storeName env x v) Q E s → wpAny (model cx.prog cx.w) A (assign (.Name x p) env v) Q E s :=
  fun _ _ _ _ h => wpAny_assign_Name h
theorem zcz {x y : Str} {i j : Nat} {p p' pos' pos : Pos} {k : Nat} {e : Expr} {z : X} (hx : ε.vars.lookup x = some i) (hy : ε.vars.lookup y = some j) (hfx : ε.kinds.lookup x ≠ some .free) (hfy : ε.kinds.lookup y ≠ some .free)
    (h : Sound cx ε e z) (hs : ∀ env, swapsWith e (some (.Tuple [.Name x p, .Name y p'] k pos')) pos.line env = pure false) (hw : ∀ env, swappedStores [.Tuple [.Name x p, .Name y p'] k pos'] e env = pure none) :
    SoundS cx ε (.Assign [.Tuple [.Name x p, .Name y p'] k pos'] e pos) (.assign2 i j z) := by
  intro n cf A env F s ρ ad m cm H ρ' o he Q E hQ
  replace he := (zcQ cf).symm.trans he
  split at he <;> cases he
  rename_i a b e1
  refine wpAny_Assign_stores (zd7 H h e1 fun v F1 s1 st q => ?_) (hs env) (hw env)
  show wpAny _ _ (assign (.Tuple [.Name x p, .Name y p'] k pos') env v) _ _ _
  have H1 := H.step st
  exact zhh H1 q (is := [i, j]) rfl rfl rfl (.cons hx hfx zep (.cons hy hfy zep .nil)) fun F2 s2 m2 cm2 x2 f2 => hQ .next F2 s2 ad m2 cm2 ((StepS.ofStep st).trans x2) f2 .next
theorem zdj {x y : Str} {i j : Nat} {ts : List Expr} {pos' pos : Pos} {k : Nat} {e : Expr} {z : X} (hx : ε.vars.lookup x = some i) (hy : ε.vars.lookup y = some j) (hfx : ε.kinds.lookup x ≠ some .free) (hfy : ε.kinds.lookup y ≠ some .free) (hij : i ≠ j)
    (h : Sound cx ε e z) (hs : ∀ env, swapsWith e (some (.Tuple ts k pos')) pos.line env = pure false) (hw : ∀ env : Env, env.scope.kind = .function → env.scope.names = ε.kinds → swappedStores [.Tuple ts k pos'] e env = pure (some [x, y])) :
    SoundS cx ε (.Assign [.Tuple ts k pos'] e pos) (.assign2 i j z) := by
  intro n cf A env F s ρ ad m cm H ρ' o he Q E hQ
  replace he := (zcQ cf).symm.trans he
  split at he <;> cases he
  rename_i a b e1
  rw [exec_Assign_arm]
  refine wb (wpAny_standAt ?_)
  rw [show swapsWithSole [.Tuple ts k pos'] e pos.line env = pure false from hs env]
  refine wb (wpAny_pure ?_)
  rw [if_neg (by decide)]
  refine wb (zd7 H h e1 fun v F1 s1 st q => ?_)
  rw [hw env H.frm.en.kind H.frm.en.names]
  refine wb (wpAny_pure ?_)
  have H1 := H.step st
  show wpAny _ _ (do
    rule "assign.swapped-stores"
    let items ← unpackItems v 2 none
    assignInOrder [bindName env y, bindName env x] items.reverse
    pure Flow.next) _ _ _
  refine wb (wpAny_rule (wb (zhf H1 q rfl fun vs s2 st2 q2 => ?_)))
  have H2 := H1.step st2
  have q3 := q2.reverse
  have S : Stores cx ε A env [bindName env y, bindName env x] [j, i] := .cons hy hfy (fun _ _ _ _ h => wpAny_bindName h) (.cons hx hfx (fun _ _ _ _ h => wpAny_bindName h) .nil)
  refine wb (S.run H2 q3 rfl fun F3 s3 m3 cm3 x3 f3 => wpAny_pure ?_)
  have e : setAll ρ [j, i] [a, b].reverse = (ρ.set i (.val a)).set j (.val b) := by
    show (ρ.set j (.val b)).set i (.val a) = _
    rw [List.set_comm _ _ hij]
  rw [e] at x3 f3
  exact hQ .next F3 s3 ad m3 cm3 (((StepS.ofStep st).trans (StepS.ofStep st2)).trans x3) f3 .next
theorem zho {body : List Stmt} {h₀ : ExceptHandler} {hs : List ExceptHandler} {b : S} {pos : Pos} (hb : SoundSs cx ε body b) : SoundS cx ε (.Try body (h₀ :: hs) [] [] pos) (.try_ b) := by
  intro n cf A env F s ρ ad m cm H ρ' o h Q E hQ
  replace h := (zg8 cf).symm.trans h
  refine wpAny_Try_except (hb n cf A env F s ρ ad m cm H ρ' o h _ _ fun f F' s' ad' m' cm' x fr q => ?_)
  cases q with
  | next => exact wpAny_execs_nil (hQ _ F' s' ad' m' cm' x fr .next)
  | brk => exact hQ _ F' s' ad' m' cm' x fr .brk
  | cont => exact hQ _ F' s' ad' m' cm' x fr .cont
  | ret r => exact hQ _ F' s' ad' m' cm' x fr (.ret r)
end
theorem zcR {env : Env} : ∀ (names : List (Str × NameKind)) (cs : List (Str × Addr)), (∀ n k, (n, k) ∈ names → k = .free → ∃ c, env.cells.lookup n = some c) → (∀ n c, cs.lookup n = some c → env.cells.lookup n = some c) →
    ∃ cs', (forIn names cs fun (x : Str × NameKind) (r : List (Str × Addr)) => (if (x.2 == NameKind.free) = true then do let c ← cellOf env x.1; pure (ForInStep.yield ((x.1, c) :: r)) else pure (ForInStep.yield r) : Sem (ForInStep (List (Str × Addr))))) = (pure cs' : Sem _) ∧
      (∀ n c, cs'.lookup n = some c → env.cells.lookup n = some c) ∧ (∀ n, (cs.lookup n).isSome ∨ (n, NameKind.free) ∈ names → (cs'.lookup n).isSome)
  | [], cs, _, h2 => ⟨cs, rfl, h2, fun n h => h.elim id fun h => nomatch h⟩
  | (n, k) :: r, cs, h1, h2 => by
    rw [List.forIn_cons]
    by_cases hk : k = .free
    · subst hk
      obtain ⟨c, hc⟩ := h1 n .free List.mem_cons_self rfl
      obtain ⟨cs', e, h3, h4⟩ := zcR r ((n, c) :: cs) (fun n' k' h => h1 n' k' (List.mem_cons_of_mem _ h)) (fun n' c' h => by
        rw [List.lookup_cons] at h
        cases hn : n' == n with
        | true => rw [hn] at h; cases h; rw [beq_iff_eq.mp hn]; exact hc
        | false => rw [hn] at h; exact h2 n' c' h)
      refine ⟨cs', ?_, h3, fun n' h => h4 n' ?_⟩
      · have e1 : cellOf env n = pure c := by unfold cellOf; rw [hc]
        simp only [beq_self_eq_true, if_true, e1, pure_bind]
        exact e
      · rw [List.lookup_cons]
        cases hn : n' == n with
        | true => exact .inl rfl
        | false =>
          rcases h with h | h
          · exact .inl h
          · rcases List.mem_cons.mp h with h | h
            · cases h; simp at hn
            · exact .inr h
    · obtain ⟨cs', e, h3, h4⟩ := zcR r cs (fun n' k' h => h1 n' k' (List.mem_cons_of_mem _ h)) h2
      have hb : (k == NameKind.free) = false := by simpa using hk
      refine ⟨cs', ?_, h3, fun n' h => h4 n' (h.imp id fun h => ?_)⟩
      · simp only [hb, Bool.false_eq_true, if_false, pure_bind]
        exact e
      · rcases List.mem_cons.mp h with h | h
        · cases h; exact absurd rfl hk
        · exact h
theorem zhP {scope : Scope} {env : Env} (h : ∀ n k, (n, k) ∈ scope.names → k = .free → ∃ c, env.cells.lookup n = some c) :
    ∃ cl, closureFor scope env = pure cl ∧ (∀ n c, cl.lookup n = some c → env.cells.lookup n = some c) ∧ (∀ n, (n, NameKind.free) ∈ scope.names → (cl.lookup n).isSome) := by
  obtain ⟨cs', e, h3, h4⟩ := zcR scope.names [] h (fun _ _ h => nomatch h)
  refine ⟨cs', ?_, h3, fun n h => h4 n (.inr h)⟩
  unfold closureFor
  simp only [bind_pure]
  refine Eq.trans ?_ e
  congr 1
noncomputable def relab (ks : List (Str × NameKind)) (names : List (Str × NameKind)) : List (Str × NameKind) :=
  names.map fun (n, k) => if (k == .free && ks.lookup n == some .cell) then (n, .cell) else (n, k)
noncomputable def compSc (ε : Sc) (scope : Scope) (tv : List (Str × Nat)) : Sc :=
  ⟨relab ε.kinds scope.names, tv ++ ε.vars.filter fun y => scope.names.lookup y.1 == some .free, ε.code⟩
theorem zcE {ks : List (Str × NameKind)} {x : Str} : ∀ {names : List (Str × NameKind)}, names.lookup x = some .local → (relab ks names).lookup x = some .local
  | [], h => nomatch h
  | (n, k) :: r, h => by
    unfold relab
    rw [List.map_cons]
    rw [List.lookup_cons] at h
    cases hx : x == n with
    | true =>
      rw [hx] at h
      cases h
      show List.lookup x ((n, NameKind.local) :: _) = _
      rw [List.lookup_cons, hx]
    | false =>
      rw [hx] at h
      by_cases hc : (k == .free && ks.lookup n == some .cell) = true
      · simp only [hc, if_true, List.lookup_cons, hx]; exact zcE h
      · simp only [if_neg hc, List.lookup_cons, hx]; exact zcE h
theorem zda {ks : List (Str × NameKind)} {x : Str} : ∀ {names : List (Str × NameKind)}, names.lookup x = some .free → (relab ks names).lookup x = some .cell ∨ (relab ks names).lookup x = some .free
  | [], h => nomatch h
  | (n, k) :: r, h => by
    unfold relab
    rw [List.map_cons]
    rw [List.lookup_cons] at h
    cases hx : x == n with
    | true =>
      rw [hx] at h
      cases h
      by_cases hc : (NameKind.free == .free && ks.lookup n == some .cell) = true
      · left; simp only [hc, if_true, List.lookup_cons, hx]
      · right; simp only [if_neg hc, List.lookup_cons, hx]
    | false =>
      rw [hx] at h
      by_cases hc : (k == .free && ks.lookup n == some .cell) = true
      · simp only [hc, if_true, List.lookup_cons, hx]; exact zda h
      · simp only [if_neg hc, List.lookup_cons, hx]; exact zda h
theorem zbw {β : Type} {p : Str → Bool} {x : Str} {j : β} : ∀ {l : List (Str × β)}, (l.filter fun y => p y.1).lookup x = some j → l.lookup x = some j ∧ p x = true
  | [], h => nomatch h
  | (n, k) :: r, h => by
    rw [List.filter_cons] at h
    rw [List.lookup_cons]
    cases hx : x == n with
    | true =>
      have e := beq_iff_eq.mp hx
      subst e
      by_cases hp : p x = true
      · simp only [hp, if_true, List.lookup_cons, hx] at h
        exact ⟨h, hp⟩
      · rw [if_neg hp] at h
        exact absurd (zbw h).2 hp
    | false =>
      by_cases hp : p n = true
      · simp only [hp, if_true, List.lookup_cons, hx] at h
        exact zbw h
      · rw [if_neg hp] at h
        exact zbw h
theorem zcZ {β : Type} {x : Str} : ∀ {l r : List (Str × β)}, (l ++ r).lookup x = (match l.lookup x with | some b => some b | none => r.lookup x)
  | [], r => rfl
  | (n, k) :: l, r => by
    rw [List.cons_append, List.lookup_cons, List.lookup_cons]
    cases hx : x == n with
    | true => rfl
    | false => exact zcZ
noncomputable def updL (m : SV) : List Str → List Value → Str → Option Value
  | x :: xs, v :: vs => updL (fun y => if y = x then some v else m y) xs vs
  | _, _ => m
theorem zgC {x : Str} : ∀ {xs : List Str} {vs : List Value} {m : SV}, x ∉ xs → updL m xs vs x = m x
  | [], _, _, _ => rfl
  | _ :: _, [], _, _ => rfl
  | y :: xs, v :: vs, m, h => by
    show updL _ xs vs x = _
    rw [zgC fun h' => h (List.mem_cons_of_mem _ h')]
    exact if_neg fun (e : x = y) => h (by rw [e]; exact List.mem_cons_self)
theorem zc9 {j : Nat} : ∀ {is : List Nat} {ds : List D} {ρ : List Slot}, j ∉ is → slotAt (setAll ρ is ds) j = slotAt ρ j
  | [], _, _, _ => rfl
  | _ :: _, [], _, _ => rfl
  | i :: is, d :: ds, ρ, h => by
    show slotAt (setAll (ρ.set i (.val d)) is ds) j = _
    rw [zc9 fun h' => h (List.mem_cons_of_mem _ h'), zbn, if_neg fun (e : j = i) => h (by rw [e]; exact List.mem_cons_self)]
theorem zfq {cx : XCx} {F : AP} {h : Heap} {ad : NAd} {x : Str} {i : Nat} : ∀ {xs : List Str} {is : List Nat} {vs : List Value} {ds : List D} {m : SV} {ρ : List Slot}, xs.Nodup → is.Nodup → xs.length = is.length → ds.length = is.length → RepL cx.T F h vs ds → (xs.zip is).lookup x = some i →
    SlotRep cx F h ad i (updL m xs vs x) (slotAt (setAll ρ is ds) i) := by
  intro xs
  induction xs with
  | nil => intro is vs ds m ρ _ _ _ _ _ e; cases e
  | cons y xs ih =>
    intro is vs ds m ρ h1 h2 h3 h4 q e
    cases is with
    | nil => cases h3
    | cons j is => cases q with
      | nil => cases h4
      | @cons v vs d ds a b =>
        rw [List.zip_cons_cons, List.lookup_cons] at e
        obtain ⟨n1, h1'⟩ := List.nodup_cons.mp h1
        obtain ⟨n2, h2'⟩ := List.nodup_cons.mp h2
        cases hx : x == y with
        | true =>
          rw [hx] at e
          cases e
          have ey := beq_iff_eq.mp hx
          subst ey
          show SlotRep cx F h ad i (updL _ xs vs x) (slotAt (setAll (ρ.set i (.val d)) is ds) i)
          rw [zgC n1, zc9 n2, zbn, if_pos rfl, if_pos rfl]
          split
          · exact .val a
          · exact .unset
        | false =>
          rw [hx] at e
          show SlotRep cx F h ad i (updL _ xs vs x) (slotAt (setAll (ρ.set j (.val d)) is ds) i)
          exact ih h1' h2' (Nat.succ.inj h3) (Nat.succ.inj h4) b e
theorem zdp {x : Str} {i : Nat} : ∀ {xs : List Str} {is : List Nat}, (xs.zip is).lookup x = some i → x ∈ xs ∧ i ∈ is
  | [], _, h => nomatch h
  | _ :: _, [], h => nomatch h
  | y :: xs, j :: is, h => by
    rw [List.zip_cons_cons, List.lookup_cons] at h
    cases hx : x == y with
    | true => rw [hx] at h; cases h; rw [beq_iff_eq.mp hx]; exact ⟨List.mem_cons_self, List.mem_cons_self⟩
    | false => rw [hx] at h; obtain ⟨a, b⟩ := zdp h; exact ⟨List.mem_cons_of_mem _ a, List.mem_cons_of_mem _ b⟩
set_option genInjectivity false in
structure CompOK (ε : Sc) (scope : Scope) (xs : List Str) (is : List Nat) : Prop where
  kind : scope.kind = .function
  nocell : ∀ y ∈ scope.names, y.2 ≠ .cell
  names : ∀ y ∈ scope.names, y.2 = .local → scope.names.lookup y.1 = some .local
  xl : ∀ x ∈ xs, scope.names.lookup x = some .local
  free : ∀ y k, (y, k) ∈ scope.names → k = .free → (∃ j, ε.vars.lookup y = some j) ∧ ε.kinds.lookup y ≠ some .local
  apart : ∀ y j, ε.vars.lookup y = some j → j ∉ is
  xn : xs.Nodup
  isn : is.Nodup
  len : xs.length = is.length
theorem zbo {β : Type} {x : Str} {b : β} : ∀ {l : List (Str × β)}, l.lookup x = some b → (x, b) ∈ l
  | [], h => nomatch h
  | (n, k) :: r, h => by
    rw [List.lookup_cons] at h
    cases hx : x == n with
    | true => rw [hx] at h; cases h; rw [beq_iff_eq.mp hx]; exact List.mem_cons_self
    | false => rw [hx] at h; exact List.mem_cons_of_mem _ (zbo h)
section
variable {cx : XCx} {ε : Sc} {env : Env} {F : AP} {h : Heap} {ρ : List Slot} {ad : NAd} {m cm : SV}
theorem EnvOK.closure (e : EnvOK cx ε env F h ρ ad m cm) {scope : Scope} {xs : List Str} {is : List Nat} (c : CompOK ε scope xs is) :
    ∃ cl, closureFor scope env = pure cl ∧ (∀ n c, cl.lookup n = some c → env.cells.lookup n = some c) ∧ (∀ n, (n, NameKind.free) ∈ scope.names → (cl.lookup n).isSome) :=
  zhP fun n k hm hk => by
    obtain ⟨⟨j, hj⟩, hl⟩ := c.free n k hm hk
    rcases e.vars n j hj with ⟨h, _⟩ | ⟨_, h, _⟩
    · exact absurd h hl
    · exact h
theorem EnvOK.comp (e : EnvOK cx ε env F h ρ ad m cm) {scope : Scope} {xs : List Str} {is : List Nat} (c : CompOK ε scope xs is) {cl : List (Str × Addr)} (h1 : ∀ n c, cl.lookup n = some c → env.cells.lookup n = some c) (h2 : ∀ n, (n, NameKind.free) ∈ scope.names → (cl.lookup n).isSome)
    {C : Addr} (hC : ¬ cx.X C) {m₁ : SV} {vs : List Value} {ds : List D} (hn : h.Ns C (updL m₁ xs vs)) (hd : ds.length = is.length) (hr : RepL cx.T F h vs ds) :
    EnvOK cx (compSc ε scope (xs.zip is)) (compEnvC scope cl C env) F h (setAll ρ is ds) ad (updL m₁ xs vs) cm := by
  refine ⟨c.kind, ?_, e.glob, e.blt, e.code, hC, fun n a ha => e.cxx n a (h1 n a ha), hn, fun n a ha => e.cells n a (h1 n a ha), fun y j hy => ?_⟩
  · show (relabel scope env).names = relab ε.kinds scope.names
    unfold relabel relab
    have ek : env.scope.kind = .function := e.kind
    have en : ∀ n, env.kindOf n = ε.kinds.lookup n := fun n => by unfold Env.kindOf; rw [e.names]
    simp only [ek, en, beq_self_eq_true, Bool.and_true]
  · have hy' : ((xs.zip is) ++ ε.vars.filter fun y => scope.names.lookup y.1 == some .free).lookup y = some j := hy
    rw [zcZ] at hy'
    split at hy'
    · rename_i i ei
      cases hy'
      left
      exact ⟨zcE (c.xl y (zdp ei).1), zfq c.xn c.isn c.len hd hr ei⟩
    · obtain ⟨hj, hp⟩ := zbw (p := fun z => scope.names.lookup z == some .free) hy'
      have hf : scope.names.lookup y = some .free := by simpa using hp
      right
      have hm := zbo hf
      have hl := (c.free y .free hm rfl).2
      rcases e.vars y j hj with ⟨h, _⟩ | ⟨_, _, q⟩
      · exact absurd h hl
      · refine ⟨zda hf, ?_, ?_⟩
        · exact Option.isSome_iff_exists.mp (h2 y hm)
        · rw [zc9 (c.apart y j hj)]
          exact q
end
section
variable {cx : XCx} {ε : Sc} {A : Around} {env : Env} {F F₀ : AP} {s s₀ : Shared}
theorem Step.kept (ok : CxOk cx) (w₀ : Wd cx F₀ s₀) (x : Step cx F₀ s₀ F s) {wr : AP} (hw : ∀ b, wr b → s₀.heap.get? b = none ∧ ¬ F b) {h' : Heap} (k : Nat)
    (hk : ∀ a o, ¬ wr a → s.heap.get? a = some o → h'.get? a = some o) : Step cx F₀ s₀ F { s with heap := h', toks := k } := by
  have nf : ∀ a, F a → ¬ wr a := fun a h hm => (hw a hm).2 h
  have nx : ∀ a, cx.X a → ¬ wr a := fun a h hm => by
    obtain ⟨o, e⟩ := w₀.xex a h
    rw [(hw a hm).1] at e; cases e
  have w := x.wd
  refine ⟨x.sub, x.new, fun a o e ax => hk a o (fun hm => ?_) (x.keep a o e ax), x.os, ⟨fun a o e ax => hk a o (nf a (w.f0 a o e ax)) (w.base a o e ax), ok.xi _ _ _ _ w.xi (fun _ h => h) (fun a o h e => hk a o (h.elim (nf a) (nx a)) e), w.gens, w.f0, fun a h => let ⟨o, e⟩ := w.lt a h; ⟨o, hk a o (nf a h) e⟩, w.nx, fun a h => let ⟨o, e⟩ := w.xex a h; ⟨o, hk a o (nx a h) e⟩⟩⟩
  rw [(hw a hm).1] at e; cases e
noncomputable def Tests (cx : XCx) (ε : Sc) (ifs : List Expr) (c : X) : Prop :=
  ∀ n cf A env F s ρ ad m cm, Here cx ε n cf A env F s ρ ad m cm → ∀ b, evT cf c ρ = some b → ∀ (Q : Bool → Shared → Prop) (E : VP), (∀ F' s', Step cx F s F' s' → Q b s') →
    wpAny (model cx.prog cx.w) A (forIn ifs true fun c r => if r = true then do let ok ← isTrue c env (eval c env); pure (ForInStep.yield ok) else pure (ForInStep.yield r)) Q E s
theorem zcm : Tests cx ε [] (.const (.bool true)) := by
  intro n cf A env F s ρ ad m cm H b hb Q E hQ
  have hb' : some true = some b := hb
  cases hb'
  rw [List.forIn_nil]
  exact wpAny_pure (hQ F s (Step.refl H.wd))
theorem zfp {t : Expr} {c : X} (h : Sound cx ε t c) : Tests cx ε [t] c := by
  intro n cf A env F s ρ ad m cm H b hb Q E hQ
  rw [List.forIn_cons]
  simp only [if_true]
  refine wb (wb (h.tr n cf A env F s ρ ad m cm H b hb _ _ fun F' s' st => wpAny_pure ?_))
  show wpAny _ _ (forIn [] b _) _ _ _
  rw [List.forIn_nil]
  exact wpAny_pure (hQ F' s' st)
noncomputable def TargetC (cx : XCx) (tg : Expr) (xs : List Str) (bind : D → Option (List D)) : Prop :=
  ∀ (A : Around) (F : AP) (s : Shared) (cenv : Env) (C : Addr) (m : SV) (v : Value) (d : D) (ds : List D), CxOk cx → Wd cx F s → A.handled = none → cenv.locals = C → (∀ x ∈ xs, cenv.kindOf x = some .local) →
    (cenv.scope.kind == .class || (cenv.scope.kind == .module && cenv.locals != cenv.globals)) = false → s.heap.Ns C m → ¬ F C → Rep cx.T F s.heap v d → bind d = some ds → ∀ (Q : Unit → Shared → Prop) (E : VP),
    (∀ h' tk vs, (∀ a o, a ≠ C → s.heap.get? a = some o → h'.get? a = some o) → h'.Ns C (updL m xs vs) → RepL cx.T F h' vs ds → Q () { s with heap := h', toks := tk }) → wpAny (model cx.prog cx.w) A (assign tg cenv v) Q E s
noncomputable def one1 (d : D) : Option (List D) := some [d]
theorem za5 {x : Str} {p : Pos} : TargetC cx (.Name x p) [x] one1 := by
  intro A F s cenv C m v d ds ok w hh hC hk hp hn nf hv hb Q E hQ
  cases hb
  subst hC
  refine wpAny_assign_Name (wpAny_storeName_local (hk x List.mem_cons_self) hn (fun h' hn' sb => ?_) hp)
  have keep : ∀ a o, a ≠ cenv.locals → s.heap.get? a = some o → h'.get? a = some o := fun a o h e => (sb.2 a h).trans e
  exact hQ h' _ [v] keep hn' (.cons (hv.mono (fun _ h => h) fun a o f e => keep a o (fun e => nf (e ▸ f)) e) .nil)
end
theorem zfW {prog : Program} {w : World} {A : Around} {R : Result → Shared → Prop} {s : Shared} {elt target iter : Expr} {ifs : List Expr} {scope : Scope} {pos : Pos} {it acc : Value} {env : Env} (I : Nat → Shared → Prop)
    (turn : ∀ n s, I n s → wpAny (model prog w) A (pyNext it) (fun r s₁ => match r with
      | none => R (.ok .next) s₁
      | some v => wpAny (model prog w) A (letOwnedTupleGo target it v) (fun _ s₁' => wpAny (model prog w) A (assign target env v) (fun _ s₂ =>
          wpAny (model prog w) A (forIn ifs true fun c r => if r = true then do let ok ← isTrue c env (eval c env); pure (ForInStep.yield ok) else pure (ForInStep.yield r)) (fun ok s₃ =>
            if ok = true then wpAny (model prog w) A (eval elt env) (fun x s₄ =>
              wpAny (model prog w) A (call (.builtin "list.append") [acc, x]) (fun _ s₅ => ∃ m, m < n ∧ I m s₅) (notedBy (model prog w) A env fun e s' => R (.error e) s') s₄) (notedBy (model prog w) A env fun e s' => R (.error e) s') s₃
            else ∃ m, m < n ∧ I m s₃) (notedBy (model prog w) A env fun e s' => R (.error e) s') s₂) (notedBy (model prog w) A env fun e s' => R (.error e) s') s₁') (notedBy (model prog w) A env fun e s' => R (.error e) s') s₁) (notedBy (model prog w) A env fun e s' => R (.error e) s') s)
    (n : Nat) (h : I n s) :
    codeAny (model prog w) A (.compLoop (.ListComp elt [⟨target, iter, ifs, 0⟩] scope pos) 0 it acc env) R s := by
  refine codeAny_loop rfl I (fun n s hI => ?_) n h
  show wpAny _ A ((compTurn (.ListComp elt [⟨target, iter, ifs, 0⟩] scope pos) 0 it acc env).onRaise (fun x => do noteFrame x env; theTreesLotGoes x)) _ _ s
  refine wpAny_noted ?_
  rw [compTurn_list]
  refine wb (wpAny_standAt (wb (wpAny_mono (turn n s hI) (fun r s₁ h₁ => ?_) fun _ _ h' => h')))
  cases r with
  | none => exact wpAny_pure h₁
  | some v =>
    refine wb (wpAny_mono h₁ (fun _ s₁' h₁' => ?_) fun _ _ h' => h')
    refine wb (wpAny_mono h₁' (fun _ s₂ h₂ => wb (wpAny_mono h₂ (fun ok s₃ h₃ => ?_) fun _ _ h' => h')) fun _ _ h' => h')
    cases ok with
    | false => exact wpAny_pure ⟨rfl, h₃⟩
    | true =>
      exact wb (wb (wpAny_mono h₃ (fun x s₄ h₄ => wb (wpAny_mono h₄ (fun _ s₅ h₅ => wpAny_pure (wpAny_pure ⟨rfl, h₅⟩)) fun _ _ h' => h')) fun _ _ h' => h'))
noncomputable def turnC (cf : CfT) (is : List Nat) (bind : D → Option (List D)) (c e : X) (ρ : List Slot) (d : D) : Option (Option D) :=
  match bind d with
  | some ds => turnD (ev cf c (setAll ρ is ds)) (ev cf e (setAll ρ is ds))
  | none => none
set_option genInjectivity false in
structure AccK (cx : XCx) (e elt tg iter : Expr) (ifs : List Expr) (mk : Sem Value) (aid : String) (P : Obj → List Value → List D → Prop) (good : List D → Prop) : Prop where
  cl : clausesOf e = [⟨tg, iter, ifs, 0⟩]
  start : ∀ {A : Around} {R : Result → Shared → Prop} {s : Shared} {it acc : Value} {env : Env}, codeAny (model cx.prog cx.w) A (.compLoop e 0 it acc env) R s →
    wpAny (model cx.prog cx.w) A (pyIter it) (fun it' s' => codeAny (model cx.prog cx.w) A (.compLoop e 0 it' acc env) R s') (notedBy (model cx.prog cx.w) A env fun x s' => R (.error x) s') s → codeAny (model cx.prog cx.w) A (.compStart e 0 it acc env) R s
  loop : ∀ {A : Around} {R : Result → Shared → Prop} {s : Shared} {it acc : Value} {env : Env} (I : Nat → Shared → Prop)
    (turn : ∀ n s, I n s → wpAny (model cx.prog cx.w) A (pyNext it) (fun r s₁ => match r with
      | none => R (.ok .next) s₁
      | some v => wpAny (model cx.prog cx.w) A (letOwnedTupleGo tg it v) (fun _ s₁' => wpAny (model cx.prog cx.w) A (assign tg env v) (fun _ s₂ =>
          wpAny (model cx.prog cx.w) A (forIn ifs true fun c r => if r = true then do let ok ← isTrue c env (eval c env); pure (ForInStep.yield ok) else pure (ForInStep.yield r)) (fun ok s₃ =>
            if ok = true then wpAny (model cx.prog cx.w) A (eval elt env) (fun x s₄ =>
              wpAny (model cx.prog cx.w) A (call (.builtin aid) [acc, x]) (fun _ s₅ => ∃ m, m < n ∧ I m s₅) (notedBy (model cx.prog cx.w) A env fun e s' => R (.error e) s') s₄) (notedBy (model cx.prog cx.w) A env fun e s' => R (.error e) s') s₃
            else ∃ m, m < n ∧ I m s₃) (notedBy (model cx.prog cx.w) A env fun e s' => R (.error e) s') s₂) (notedBy (model cx.prog cx.w) A env fun e s' => R (.error e) s') s₁') (notedBy (model cx.prog cx.w) A env fun e s' => R (.error e) s') s₁) (notedBy (model cx.prog cx.w) A env fun e s' => R (.error e) s') s)
    (n : Nat) (h : I n s), codeAny (model cx.prog cx.w) A (.compLoop e 0 it acc env) R s
  new : ∀ {A : Around} {Q E : VP} {s : Shared}, (∀ o : Obj, P o [] [] → o.isFreed = false → Q (.ref s.heap.objs.size) { s with heap := s.heap.push o }) → wpAny (model cx.prog cx.w) A mk Q E s
  pre : ∀ {a b : List D}, good (a ++ b) → good a
  add : ∀ {A : Around} {Q E : VP} {s : Shared} {F : AP} {Da : Addr} {o : Obj} {ys : List Value} {ds : List D} {v : Value} {y : D}, s.heap.get? Da = some o → P o ys ds → ys.length ≤ lim → Rep cx.T F s.heap v y → good (ds ++ [y]) →
    (∀ h' tk o', Heap.SameBut Da s.heap h' → h'.get? Da = some o' → P o' (ys ++ [v]) (ds ++ [y]) → Q .none { s with heap := h', toks := tk }) → wpAny (model cx.prog cx.w) A (call (.builtin aid) [.ref Da, v]) Q E s
inductive CoreI (P : Obj → List Value → List D → Prop) (cx : XCx) (F : AP) (s : Shared) (F1 : AP) (h1 : Heap) (wr : List Addr) (Da C : Addr) (St : Nat → Heap → Prop) (items l : List D) (go : List D → Option (List D)) (k : Nat) (s' : Shared) : Prop
  | mk (j : Nat) (F' : AP) (ys : List Value) (ds : List D) (kk : Obj) (m' : SV) (hj : j ≤ items.length) (hk : k = items.length - j) (st : Step cx F s F' s') (hrep : ∀ v d, Rep cx.T F1 h1 v d → Rep cx.T F' s'.heap v d) (hF : ∀ a, F1 a → F' a) (hst : St j s'.heap)
    (hwr : ∀ b ∈ wr, ¬ F' b) (hnD : ¬ F' Da) (hnC : ¬ F' C) (hD : s'.heap.get? Da = some kk) (hP : P kk ys ds) (hys : RepL cx.T F' s'.heap ys ds) (hyl : ys.length ≤ j) (hns : s'.heap.Ns C m') (rest : List D) (hgo : go (items.drop j) = some rest) (hrest : l = ds ++ rest)
set_option genInjectivity false in
structure CoreL (cx : XCx) (F1 : AP) (h1 : Heap) (wr : List Addr) (Da C : Addr) (St : Nat → Heap → Prop) (j : Nat) (ys : List Value) (ds : List D) (kk : Obj) (m' : SV) (F4 : AP) (h4 : Heap) : Prop where
  p1 : ∀ v d, Rep cx.T F1 h1 v d → Rep cx.T F4 h4 v d
  p2 : ∀ a, F1 a → F4 a
  p3 : St j h4
  p4 : ∀ b ∈ wr, ¬ F4 b
  p5 : ¬ F4 Da
  p6 : ¬ F4 C
  p7 : h4.get? Da = some kk
  p8 : RepL cx.T F4 h4 ys ds
  p9 : h4.Ns C m'
inductive CoreT (cf : CfT) (c e : X) (ρ : List Slot) (go : Option (List D)) (rest : List D) : Prop
  | skip : truthR (ev cf c ρ) = some false → go = some rest → CoreT cf c e ρ go rest
  | take (r : R) (y : D) (ys : List D) : truthR (ev cf c ρ) = some true → ev cf e ρ = some [r] → r.fz = some y → go = some ys → rest = y :: ys → CoreT cf c e ρ go rest
theorem zeF {f : D → Option (Option D)} {d : D} {r rest : List D} (h : compGo f (d :: r) = some rest) : (f d = some none ∧ compGo f r = some rest) ∨ ∃ y ys, f d = some (some y) ∧ compGo f r = some ys ∧ rest = y :: ys := by
  unfold compGo at h
  cases e : f d with
  | none => rw [e] at h; cases h
  | some o =>
    rw [e] at h
    cases o with
    | none => exact .inl ⟨rfl, h⟩
    | some y =>
      cases e2 : compGo f r with
      | none => simp only [e2] at h; cases h
      | some ys => simp only [e2] at h; cases h; exact .inr ⟨y, ys, rfl, rfl, rfl⟩
theorem zcT {c e : Option (List R)} {o : Option D} (h : turnD c e = some o) : (truthR c = some false ∧ o = none) ∨ ∃ r y, truthR c = some true ∧ e = some [r] ∧ r.fz = some y ∧ o = some y := by
  unfold turnD at h
  cases t : truthR c with
  | none => rw [t] at h; cases h
  | some b =>
    rw [t] at h
    cases b with
    | false => cases h; exact .inl ⟨rfl, rfl⟩
    | true =>
      rcases e with _ | _ | ⟨r, _ | ⟨_, _⟩⟩ <;> try (cases h; done)
      obtain ⟨y, e1, e2⟩ := Option.map_eq_some_iff.mp (show r.fz.map some = some o from h)
      exact .inr ⟨r, y, rfl, rfl, e1, e2.symm⟩
theorem zi4 {cf : CfT} {is : List Nat} {bind : D → Option (List D)} {c e : X} {ρ : List Slot} {d : D} {r rest : List D} (h : compGo (turnC cf is bind c e ρ) (d :: r) = some rest) :
    ∃ dv, bind d = some dv ∧ CoreT cf c e (setAll ρ is dv) (compGo (turnC cf is bind c e ρ) r) rest := by
  have key : ∀ {o}, turnC cf is bind c e ρ d = some o → ∃ dv, bind d = some dv ∧ turnD (ev cf c (setAll ρ is dv)) (ev cf e (setAll ρ is dv)) = some o := by
    intro o h
    cases q : bind d with
    | none => simp only [turnC, q] at h; cases h
    | some dv => simp only [turnC, q] at h; exact ⟨dv, rfl, h⟩
  rcases zeF h with ⟨h1, h2⟩ | ⟨y, ys, h1, h2, h3⟩
  · obtain ⟨dv, e1, e2⟩ := key h1
    refine ⟨dv, e1, ?_⟩
    rcases zcT e2 with ⟨t, _⟩ | ⟨_, _, _, _, _, q⟩
    · exact .skip t h2
    · cases q
  · obtain ⟨dv, e1, e2⟩ := key h1
    refine ⟨dv, e1, ?_⟩
    rcases zcT e2 with ⟨_, q⟩ | ⟨r', y', t, a, b, q⟩
    · cases q
    · cases q; exact .take r' y ys t a b h2 h3
section
variable {cx : XCx} {ε : Sc}
theorem zhM {ex elt iter tg : Expr} {ifs : List Expr} {mk : Sem Value} {aid : String} {PA : Obj → List Value → List D → Prop} {good : List D → Prop} (K : AccK cx ex elt tg iter ifs mk aid PA good) {scope : Scope} {cpos : Pos} {xs : List Str} {is : List Nat} {bind : D → Option (List D)} {c e it : X}
    (hT : TargetC cx tg xs bind) (hb : ∀ d ds, bind d = some ds → ds.length = is.length) (hi : SoundI cx ε iter it) (ok : CompOK ε scope xs is) (hc : Tests cx (compSc ε scope (xs.zip is)) ifs c) (he : Sound cx (compSc ε scope (xs.zip is)) elt e)
    (hs : ∀ env x, foldedSetIterable iter env x = pure x)
    {n cf A env F s ρ ad m cm} (H : Here cx ε n cf A env F s ρ ad m cm) {items l : List D} (hit : evI cf it ρ = some items) (hl : compGo (turnC cf is bind c e ρ) items = some l)
    (hgood : good l) {use : Option (Value → Sem Unit)} {Q E : VP}
    (hRR : ∀ Da C F' s' m' ob ys, Step cx F s F' s' → s.heap.get? Da = none → ¬ F' Da → ¬ cx.X Da → s'.heap.get? Da = some ob → PA ob ys l → RepL cx.T F' s'.heap ys l → ys.length ≤ lim → s'.heap.Ns C m' → s.heap.get? C = none → ¬ F' C → C ≠ Da → compPost (model cx.prog cx.w) A E use Q (.ref Da) C (.ok .next) s') :
    wpAny (model cx.prog cx.w) A (comprehension ex scope env cpos mk false (eval iter env) use) Q E s := by
  obtain ⟨cl, hclos, h1, h2⟩ := H.env.closure ok
  refine wpAny_comprehension_free K.cl (hs env) hclos ok.kind ok.names (hi n cf A env F s ρ ad m cm H items hit _ _ fun I F1 s1 fp wr P St J => ?_)
  refine K.new fun o0 hP0 hfr => ?_
  refine (wpAny_newFunctionEnv ok.nocell (by intro y hy; simp at hy) (fun h₁ hns₁ hsb₁ => ?_) ok.kind)
  dsimp only at hns₁ hsb₁ ⊢
  generalize hH2 : s1.heap.push o0 = H2 at hns₁ hsb₁ ⊢
  generalize hD : s1.heap.objs.size = Da
  generalize hCe : H2.objs.size = C at hns₁ hsb₁
  have hCD : C = Da + 1 := by rw [← hCe, ← hD, ← hH2, Heap.size_push]
  have hDC : C ≠ Da := by rw [hCD]; exact Nat.succ_ne_self Da
  have fr : ∀ a, Da ≤ a → s1.heap.get? a = none := fun a ha => by
    cases e : s1.heap.get? a with
    | none => rfl
    | some o' => exact absurd (hD ▸ Heap.lt_size e) (Nat.not_lt.mpr ha)
  have lt1 : ∀ b o, s1.heap.get? b = some o → b ≠ C ∧ b ≠ Da := fun b o e => ⟨Nat.ne_of_lt (by rw [hCD]; exact Nat.lt_succ_of_lt (hD ▸ Heap.lt_size e)), Nat.ne_of_lt (hD ▸ Heap.lt_size e)⟩
  have old : ∀ b o, s1.heap.get? b = some o → h₁.get? b = some o := fun b o e => hsb₁.extBut b o (lt1 b o e).1 (Heap.get?_push_of_some _ (hH2 ▸ Heap.get?_push_of_some _ e))
  have hacc : h₁.get? Da = some o0 := hsb₁.extBut _ _ hDC.symm (Heap.get?_push_of_some _ (by rw [← hH2, ← hD]; exact Heap.get?_push_size _ hfr))
  have frD := fr Da (Nat.le_refl _)
  have frC := fr C (by rw [hCD]; exact Nat.le_succ Da)
  have xD : ¬ cx.X Da := J.st.wd.newNotX frD
  have xC : ¬ cx.X C := J.st.wd.newNotX frC
  have frD0 : s.heap.get? Da = none := J.st.fresh xD frD
  have frC0 : s.heap.get? C = none := J.st.fresh xC frC
  have st1 : Step cx F s F1 { s1 with heap := h₁, toks := s1.toks + ([] : List (Str × Value)).length } := J.st.trans (Step.grown H.ok J.st.wd _ old)
  have loop : ∀ s₃ : Shared, s₃ = { s1 with heap := h₁, toks := s1.toks + ([] : List (Str × Value)).length } →
      codeAny (model cx.prog cx.w) A (.compLoop ex 0 (.ref I) (.ref Da) (compEnvC scope cl C env)) (compPost (model cx.prog cx.w) A E use Q (.ref Da) C) s₃ := by
    rintro s₃ rfl
    refine K.loop (CoreI PA cx F s F1 s1.heap wr Da C St items l (compGo (turnC cf is bind c e ρ))) (fun k s' hI => ?_) items.length
      ⟨0, F1, [], [], o0, _, Nat.zero_le _, rfl, st1, fun v d r => r.mono (fun _ h => h) fun a o _ e => old a o e, fun _ h => h, (J.W A H.bud.hd).frame _ _ _ J.s0 fun b _ o e => old b o e, fun b hb => (J.new b hb).2, J.st.wd.newNotF frD, J.st.wd.newNotF frC, hacc, hP0, .nil, Nat.le_refl _, hns₁, l, hl, rfl⟩
    obtain ⟨j, F', ys, ds, kk, m', hj, rfl, st', hrep, hF, hst, hwr, hnD, hnC, hD', hPo, hys, hyl, hns', rest, hgo, hrest⟩ := hI
    obtain ⟨o0, T0, gI, _, _⟩ := J.ty 0 _ J.s0
    have hwI : ∀ b ∈ wr, b ≠ C ∧ b ≠ Da := fun b hb => by rw [J.one b hb]; exact lt1 I _ gI
    have dC : C ∉ wr := fun h => (hwI C h).1 rfl
    have dD : Da ∉ wr := fun h => (hwI Da h).2 rfl
    have hwn : ∀ b, b ∈ wr → s.heap.get? b = none ∧ ¬ F' b := fun b hb => ⟨(J.new b hb).1, hwr b hb⟩
    have xwr : ∀ b ∈ wr, ¬ cx.X b := fun b hb h => by
      obtain ⟨o, e⟩ := H.wd.xex b h
      rw [(J.new b hb).1] at e; cases e
    rcases Nat.lt_or_ge j items.length with hlt | hge
    · refine (J.W A H.bud.hd).item j s' _ _ hlt hst fun v h' tk hP hst' hk => ?_
      have st2 := st'.kept H.ok H.wd (wr := (· ∈ wr)) hwn tk hk
      obtain ⟨d, hd, hr⟩ := J.item j v hP
      have hdrop : items.drop j = d :: items.drop (j + 1) := by
        have h1 : items[j]? = some items[j] := List.getElem?_eq_getElem hlt
        rw [h1] at hd
        cases hd
        exact List.drop_eq_getElem_cons hlt
      rw [hdrop] at hgo
      obtain ⟨dv, hdv, hturn⟩ := zi4 hgo
      obtain ⟨ob, T, g1, g2, g3⟩ := J.ty _ _ hst'
      have keepF : ∀ a o, F' a → s'.heap.get? a = some o → h'.get? a = some o := fun a o f e => hk a o (fun hm => hwr a hm f) e
      have hr2 : ∀ v d, Rep cx.T F1 s1.heap v d → Rep cx.T F' h' v d := fun v d hr => (hrep v d hr).mono (fun _ h => h) keepF
      refine zdH (s := { s' with heap := h', toks := tk }) g1 g2 g3 ?_
      have hnC' : h'.Ns C m' := hns'.at' fun o e => hk C o dC e
      refine hT A F' { s' with heap := h', toks := tk } (compEnvC scope cl C env) C m' v d dv H.ok st2.wd H.bud.hd rfl (fun x hx => lookup_relabel_local (ok.xl x hx)) (by simp [compEnvC, relabel, ok.kind]) hnC' hnC (hr2 v d hr) hdv _ _ fun h3 tk3 vs3 hk3 hns3 hr3 => ?_
      have st3 : Step cx F s F' { s' with heap := h3, toks := tk3 } := st2.kept H.ok H.wd (wr := (· = C)) (fun b hb => by subst hb; exact ⟨frC0, hnC⟩) tk3 hk3
      have keep3 : ∀ a o, F' a → s'.heap.get? a = some o → h3.get? a = some o := fun a o f e => hk3 a o (fun e => hnC (e ▸ f)) (keepF a o f e)
      have H3 : Here cx (compSc ε scope (xs.zip is)) n cf A (compEnvC scope cl C env) F' { s' with heap := h3, toks := tk3 } (setAll ρ is dv) ad (updL m' xs vs3) cm :=
        ⟨H.ok, H.calls, H.bud, st3.wd, (H.step st3).env.comp ok h1 h2 xC hns3 (hb d dv hdv) hr3⟩
      have hst3 : St (j + 1) h3 := (J.W A H.bud.hd).frame _ _ _ hst' fun b hb o e => hk3 b o (by
        rcases J.deps b hb with h | h
        · exact (hwI b h).1
        · exact fun e => hnC (e ▸ hF b h)) e
      have hD3 : h3.get? Da = some kk := hk3 Da _ hDC.symm (hk Da _ dD hD')
      have later : ∀ {F4 s4}, Step cx F' { s' with heap := h3, toks := tk3 } F4 s4 → CoreL cx F1 s1.heap wr Da C St (j + 1) ys ds kk (updL m' xs vs3) F4 s4.heap := by
        intro F4 s4 y
        have isC : ∃ o, h3.get? C = some o := by obtain ⟨o, _, _, e, _⟩ := hns3; exact ⟨o, e⟩
        obtain ⟨oC, eC⟩ := isC
        obtain ⟨ob3, T3, g13, _, _⟩ := J.ty _ _ hst3
        refine ⟨fun v d q => y.rep H3.wd ((hr2 v d q).mono (fun _ h => h) fun a o f e => hk3 a o (fun e => hnC (e ▸ f)) e), fun a h => y.sub a (hF a h), (J.W A H.bud.hd).frame _ _ _ hst3 fun b hb o e => ?_, fun b hb => ?_, y.notF hnD hD3, y.notF hnC eC, y.keep _ _ hD3 xD, y.repL H3.wd (hys.mono (fun _ h => h) keep3), hns3.at' fun o e => y.keep _ o e xC⟩
        · rcases J.deps b hb with h | h
          · exact y.keep b o e (xwr b h)
          · exact y.keep b o e (H3.wd.nx b (hF b h))
        · exact y.notF (hwr b hb) (by rw [J.one b hb]; exact g13)
      cases hturn with
      | skip htr hgo' =>
        refine hc n cf A _ F' _ _ ad _ cm H3 false htr _ _ fun F4 s4 st4 => ?_
        obtain ⟨p1, p2, p3, p4, p5, p6, p7, p8, p9⟩ := later st4
        rw [if_neg (by decide)]
        exact ⟨items.length - (j + 1), Nat.sub_lt_sub_left hlt (Nat.lt_succ_self j), j + 1, F4, ys, ds, kk, _, hlt, rfl, st3.trans st4, p1, p2, p3, p4, p5, p6, p7, hPo, p8, by omega, p9, rest, hgo', hrest⟩
      | take r y ys' htr e1 e2 e4 e5 =>
          refine hc n cf A _ F' _ _ ad _ cm H3 true htr _ _ fun F4 s4 st4 => ?_
          rw [if_pos rfl]
          have H4 := H3.step st4
          refine he.ev n cf A _ F4 s4 _ ad _ cm H4 r e1 _ _ fun v5 F5 s5 st5 q5 => ?_
          obtain ⟨F6, st6, _, r6⟩ := st5.fz H.ok st4.wd q5 e2
          obtain ⟨p1, p2, p3, p4, p5, p6, p7, p8, p9⟩ := later (st4.trans st6)
          have hlen : ys.length < lim := by have := J.lim; omega
          have hgd : good (ds ++ [y]) := K.pre (b := ys') (by rw [List.append_assoc]; have := hrest; rw [e5] at this; exact this ▸ hgood)
          refine K.add p7 hPo (Nat.le_of_lt hlen) r6 hgd fun h7 tk7 k7 sb7 hl7 hP7 => ?_
          have st7 : Step cx F s F6 { s5 with heap := h7, toks := tk7 } := (st3.trans (st4.trans st6)).kept H.ok H.wd (wr := (· = Da)) (fun b hb => by subst hb; exact ⟨frD0, p5⟩) tk7 fun a o h e => (sb7.2 a h).trans e
          have keep7 : ∀ a o, F6 a → s5.heap.get? a = some o → h7.get? a = some o := fun a o f e => (sb7.2 a fun e => p5 (e ▸ f)).trans e
          refine ⟨items.length - (j + 1), Nat.sub_lt_sub_left hlt (Nat.lt_succ_self j), j + 1, F6, ys ++ [v5], ds ++ [y], k7, _, hlt, rfl, st7, fun v d q => (p1 v d q).mono (fun _ h => h) keep7, p2, (J.W A H.bud.hd).frame _ _ _ p3 fun b hb o e => (sb7.2 b ?_).trans e, p4, p5, p6, hl7, hP7, (p8.append (.cons r6 .nil)).mono (fun _ h => h) keep7, by rw [List.length_append]; simp; omega, p9.sameBut sb7 hDC, ys', e4, by rw [hrest, e5]; simp⟩
          rcases J.deps b hb with h | h
          · exact (hwI b h).2
          · exact fun e => p5 (e ▸ p2 b h)
    · have ej : j = items.length := Nat.le_antisymm (by assumption) (by assumption)
      subst ej
      rw [List.drop_length] at hgo
      cases hgo
      refine (J.W A H.bud.hd).done s' _ _ hst fun h' tk hk => ?_
      have st2 := st'.kept H.ok H.wd (wr := (· ∈ wr)) hwn tk hk
      have keepF : ∀ a o, F' a → s'.heap.get? a = some o → h'.get? a = some o := fun a o f e => hk a o (fun hm => hwr a hm f) e
      rw [List.append_nil] at hrest
      subst hrest
      exact hRR Da C F' _ m' kk ys st2 frD0 hnD xD (hk Da _ dD hD') hPo (hys.mono (fun _ h => h) keepF) (by have := J.lim; omega) (hns'.at' fun o e => hk C o dC e) frC0 hnC hDC
  exact K.start (loop _ rfl) ((J.W A H.bud.hd).self 0 _ _ _ ((J.W A H.bud.hd).frame _ _ _ J.s0 fun b _ o e => old b o e) (loop _ rfl))
noncomputable def LsP (o : Obj) (ys : List Value) (_ : List D) : Prop := ∃ k, o = lobj ys.toArray k
theorem accList {elt tg iter : Expr} {ifs : List Expr} {scope : Scope} {pos : Pos} : AccK cx (.ListComp elt [⟨tg, iter, ifs, 0⟩] scope pos) elt tg iter ifs (newList []) "list.append" LsP (fun _ => True) where
  cl := rfl
  start := fun h0 h => codeAny_compStart_list h0 h
  loop := fun I turn n h => zfW I turn n h
  new := fun h => wpAny_newObj_type (h _ ⟨0, rfl⟩ rfl)
  pre := fun _ => trivial
  add := fun {A Q E s F Da o ys ds v y} g hP z r _ h => by
    obtain ⟨k, rfl⟩ := hP
    refine wpAny_list_append_plain ⟨k, g⟩ (fun h7 hl7 sb7 => ?_) (by rw [List.size_toArray]; exact zba z)
    obtain ⟨k7, hl7⟩ := hl7
    have e7 : ys.toArray.push v = (ys ++ [v]).toArray := by simp
    rw [e7] at hl7
    exact h h7 s.toks _ sb7 hl7 ⟨k7, rfl⟩
theorem zfV {elt iter tg : Expr} {ifs : List Expr} {scope : Scope} {pos cpos : Pos} {xs : List Str} {is : List Nat} {bind : D → Option (List D)} {c e it : X}
    (hT : TargetC cx tg xs bind) (hb : ∀ d ds, bind d = some ds → ds.length = is.length) (hi : SoundI cx ε iter it) (ok : CompOK ε scope xs is) (hc : Tests cx (compSc ε scope (xs.zip is)) ifs c) (he : Sound cx (compSc ε scope (xs.zip is)) elt e)
    (hs : ∀ env x, foldedSetIterable iter env x = pure x)
    {n cf A env F s ρ ad m cm} (H : Here cx ε n cf A env F s ρ ad m cm) {items l : List D} (hit : evI cf it ρ = some items) (hl : compGo (turnC cf is bind c e ρ) items = some l)
    {use : Option (Value → Sem Unit)} {Q E : VP}
    (hRR : ∀ Da C F' s' m', Step cx F s F' s' → RepR cx F' s.heap s'.heap (.ref Da) (.own l) → s'.heap.Ns C m' → s.heap.get? C = none → ¬ F' C → C ≠ Da → compPost (model cx.prog cx.w) A E use Q (.ref Da) C (.ok .next) s') :
    wpAny (model cx.prog cx.w) A (comprehension (.ListComp elt [⟨tg, iter, ifs, 0⟩] scope pos) scope env cpos (newList []) false (eval iter env) use) Q E s :=
  zhM accList hT hb hi ok hc he hs H hit hl trivial fun Da C F' s' m' ob ys st f0 nf nx g hP q z hn c1 c2 c3 => by
    obtain ⟨k, rfl⟩ := hP
    exact hRR Da C F' s' m' st (.own f0 nf nx g z q) hn c1 c2 c3
end
section
variable {cx : XCx} {ε : Sc}
theorem zhL {elt iter tg : Expr} {ifs : List Expr} {scope : Scope} {pos : Pos} {xs : List Str} {is : List Nat} {bind : D → Option (List D)} {c e it : X}
    (hT : TargetC cx tg xs bind) (hb : ∀ d ds, bind d = some ds → ds.length = is.length) (hi : SoundI cx ε iter it) (ok : CompOK ε scope xs is) (hc : Tests cx (compSc ε scope (xs.zip is)) ifs c) (he : Sound cx (compSc ε scope (xs.zip is)) elt e)
    (hs : ∀ env x, foldedSetIterable iter env x = pure x)
    {n cf A env F s ρ ad m cm} (H : Here cx ε n cf A env F s ρ ad m cm) {items l : List D} (hit : evI cf it ρ = some items) (hl : compGo (turnC cf is bind c e ρ) items = some l)
    {Q E : VP} (hQ : Post cx F s (.own l) Q) :
    wpAny (model cx.prog cx.w) A (eval (.ListComp elt [⟨tg, iter, ifs, 0⟩] scope pos) env) Q E s := by
  rw [eval_ListComp]
  refine zfV (use := none) hT hb hi ok hc he hs H hit hl fun Da C F' s' m' st q hn frC nC hne => ?_
  refine ⟨m', hn, fun h'' sb => ?_⟩
  have st2 : Step cx F s F' { s' with heap := h'' } := st.kept H.ok H.wd (wr := (· = C)) (fun b hb => by subst hb; exact ⟨frC, nC⟩) s'.toks fun a o h e => (sb.2 a h).trans e
  refine hQ _ F' _ st2 ?_
  cases q with
  | own lo nf nx g z q => exact .own lo nf nx ((sb.2 Da hne.symm).trans g) z (q.mono (fun _ h => h) fun a o f e => (sb.2 a fun e => nC (e ▸ f)).trans e)
theorem zgt {cf : CfT} {i : Nat} {it c e : X} {ρ : List Slot} {r : R} (h : ev cf (.comp i it c e) ρ = some [r]) : ∃ items l, evI cf it ρ = some items ∧ compGo (turnC cf [i] one1 c e ρ) items = some l ∧ r = .own l := by
  replace h := (zaK _).symm.trans h
  split at h
  · rename_i items e1
    obtain ⟨l, e2, e3⟩ := Option.map_eq_some_iff.mp h
    cases e3
    refine ⟨items, l, by unfold evI; rw [e1], e2, rfl⟩
  · cases h
set_option genInjectivity false in
structure CompX (cx : XCx) (ε : Sc) (elt iter tg : Expr) (ifs : List Expr) (scope : Scope) (xs : List Str) (is : List Nat) (bind : D → Option (List D)) (it c e : X) : Prop where
  hT : TargetC cx tg xs bind
  hb : ∀ d ds, bind d = some ds → ds.length = is.length
  hi : SoundI cx ε iter it
  ok : CompOK ε scope xs is
  hc : Tests cx (compSc ε scope (xs.zip is)) ifs c
  he : Sound cx (compSc ε scope (xs.zip is)) elt e
  hs : ∀ env x, foldedSetIterable iter env x = pure x
theorem zer {elt iter tg : Expr} {ifs : List Expr} {scope : Scope} {pos : Pos} {x : Str} {i : Nat} {it c e : X} (h : CompX cx ε elt iter tg ifs scope [x] [i] one1 it c e) :
    Sound cx ε (.ListComp elt [⟨tg, iter, ifs, 0⟩] scope pos) (.comp i it c e) := by
  refine Sound.ofE ?_ fun _ => rfl
  intro n cf A env F s ρ ad m cm H r hr Q E hQ
  obtain ⟨items, l, e1, e2, rfl⟩ := zgt hr
  exact zhL h.hT h.hb h.hi h.ok h.hc h.he h.hs H e1 e2 hQ
theorem zi6 {elt iter tg : Expr} {ifs : List Expr} {scope : Scope} {pos spos py : Pos} {xs : List Str} {is : List Nat} {bind : D → Option (List D)} {c e it : X} {y : Str} {j : Nat} (h : CompX cx ε elt iter tg ifs scope xs is bind it c e)
    (hy : ε.vars.lookup y = some j) (hf : ε.kinds.lookup y ≠ some .free) (hs : ∀ env : Env, env.scope.kind = .function → env.scope.names = ε.kinds → swapsWith (.ListComp elt [⟨tg, iter, ifs, 0⟩] scope pos) (some (.Name y py)) spos.line env = pure true)
    {n cf A env F s ρ ad m cm} (H : HereS cx ε n cf A env F s ρ ad m cm) {items l : List D} (hit : evI cf it ρ = some items) (hl : compGo (turnC cf is bind c e ρ) items = some l)
    (own : Bool) (hna : own = true → noApp j ρ = true ∧ dSlot j = false) {Q : Flow → Shared → Prop} {E : VP} (hQ : PostS cx ε env F s ρ ad (ρ.set j (if own then .own l else .val (.list l))) .next Q) :
    wpAny (model cx.prog cx.w) A (exec (.Assign [.Name y py] (.ListComp elt [⟨tg, iter, ifs, 0⟩] scope pos) spos) env) Q E s := by
  rw [exec_Assign_Name_used _ _ _ _ (hs env H.frm.en.kind H.frm.en.names)]
  refine wb (wpAny_standAt (wb ?_))
  show wpAny _ A (do let _ ← comprehension (.ListComp elt [⟨tg, iter, ifs, 0⟩] scope pos) scope env _ (newList []) false (eval iter env) (some (assign (.Name y py) env))) _ _ s
  refine wb (zfV (use := some (assign (.Name y py) env)) h.hT h.hb h.hi h.ok h.hc h.he h.hs H.here hit hl fun Da C F' s' m' st q hn frC nC hne => ?_)
  show wpAny _ A (assign (.Name y py) env (.ref Da)) _ _ _
  refine wpAny_assign_Name ?_
  have nm : ∀ {a}, s.heap.get? a = none → ¬ Mut env ρ ad a := fun e hm => by
    obtain ⟨o, e'⟩ := H.frm.isSome hm
    rw [e] at e'; cases e'
  cases q with
  | @own _ vs k _ lo nf nx g z q =>
  have fin : ∀ {F'' : AP} {sl : Slot} {ad' : NAd} {s'' : Shared} {m'' cm'' : SV}, sl = (if own then Slot.own l else .val (.list l)) → (∀ l', sl = .own l' → ad' j = Da) → (∀ i, i ≠ j → ad' i = ad i) → StepS cx env F s ρ ad F'' s'' (ρ.set j sl) ad' → Frm cx ε env F'' s'' (ρ.set j sl) ad' m'' cm'' → ¬ F'' C → s''.heap.Ns C m' →
      ∃ m, s''.heap.Ns C m ∧ ∀ h', Heap.SameBut C s''.heap h' → wpAny (model cx.prog cx.w) A (pure PUnit.unit) (fun _ s' => wpAny (model cx.prog cx.w) A (pure Flow.next) Q E s') E { s'' with heap := h' } := by
    intro F'' sl ad' s'' m'' cm'' hsl hDa had x f nF hn'
    refine ⟨m', hn', fun h' sb => wpAny_pure (wpAny_pure ?_)⟩
    have nM : ¬ Mut env (ρ.set j sl) ad' C := fun hm => by
      rcases hm with h | h | ⟨i, l', hi, rfl⟩
      · exact nm frC (.inl h)
      · exact nm frC (.inr (.inl h))
      · rw [zbn] at hi
        by_cases e : i = j
        · subst e
          rw [if_pos rfl] at hi
          split at hi
          · exact hne (hDa l' hi)
          · cases hi
        · rw [if_neg e] at hi
          rw [had i e] at frC
          exact nm frC (.inr (.inr ⟨i, l', hi, rfl⟩))
    obtain ⟨x2, f2⟩ := x.kept H.ok H.wd f (wr := [C]) (fun b hb => by simp only [List.mem_cons, List.not_mem_nil, or_false] at hb; subst hb; exact ⟨frC, nF, nM⟩) (h' := h') s''.toks (fun a o hm e => (sb.2 a (by simpa using hm)).trans e)
    rw [hsl] at x2 f2
    exact hQ .next F'' _ ad' m'' cm'' x2 f2 .next
  cases own with
  | false =>
    have st2 := st.freeze H.ok H.wd lo g
    refine zc7 H st2 hy hf (sl := .val (.list l)) (ad' := ad) (fun _ _ => rfl) (.inl rfl) (fun h' hk => .val (.list (.inr rfl) (hk Da _ (.inl (.inr rfl)) g) z (q.mono (fun _ h => .inl h) fun a o f e => hk a o (.inl (.inl f)) e))) (fun _ e => nomatch e) fun s'' m'' cm'' hk x f => ?_
    exact fin (sl := .val (.list l)) (by rw [if_neg (by decide)]) (fun _ e => nomatch e) (fun _ _ => rfl) x f (fun h => h.elim nC hne) (hn.at' fun o e => hk C o (nm frC) e)
  | true =>
    refine zc7 H st hy hf (sl := .own l) (ad' := fun i => if i = j then Da else ad i) (fun i hi => if_neg hi) (.inr (zgX (hna rfl).1)) (fun h' hk => ?_) (fun l' _ => ?_) fun s'' m'' cm'' hk x f => ?_
    · have : SlotRep cx F' h' (fun i => if i = j then Da else ad i) j (some (.ref ((fun i => if i = j then Da else ad i) j))) (.own l) := by
        refine .own (vs := vs) (n := k) ?_ ?_ ?_ z (q.mono (fun _ h => h) fun b o f e => hk b o (.inl f) e) (hna rfl).2 <;> simp only [if_true]
        · exact nf
        · exact nx
        · exact hk Da _ (.inr (nm lo)) g
      simpa using this
    · simp only [if_true]
      exact ⟨lo, nf, nx, _, g⟩
    · exact fin (sl := .own l) (ad' := fun i => if i = j then Da else ad i) (by rw [if_pos rfl]) (fun _ _ => if_pos rfl) (fun i hi => if_neg hi) x f nC (hn.at' fun o e => hk C o (nm frC) e)
theorem ev1_own {cf : CfT} {x : X} {ρ : List Slot} {d : D} (h : ev1 cf x ρ = some d) {P : List D → Prop} (hp : ∀ r, ev cf x ρ = some [r] → ∃ l, r = .own l ∧ P l) : ∃ l, d = .list l ∧ P l := by
  obtain ⟨r, e1, e2⟩ := zgu h
  obtain ⟨l, rfl, p⟩ := hp r e1
  cases e2
  exact ⟨l, rfl, p⟩
theorem zbD {elt iter tg : Expr} {ifs : List Expr} {scope : Scope} {pos spos py : Pos} {x y : Str} {i j : Nat} {it c e : X} (h : CompX cx ε elt iter tg ifs scope [x] [i] one1 it c e)
    (hy : ε.vars.lookup y = some j) (hf : ε.kinds.lookup y ≠ some .free) (hs : ∀ env : Env, env.scope.kind = .function → env.scope.names = ε.kinds → swapsWith (.ListComp elt [⟨tg, iter, ifs, 0⟩] scope pos) (some (.Name y py)) spos.line env = pure true) :
    SoundS cx ε (.Assign [.Name y py] (.ListComp elt [⟨tg, iter, ifs, 0⟩] scope pos) spos) (.assign j (.comp i it c e)) := by
  intro n cf A env F s ρ ad m cm H ρ' o he Q E hQ
  replace he := (zdg cf).symm.trans he
  obtain ⟨d, hd, e'⟩ := Option.map_eq_some_iff.mp he
  cases e'
  obtain ⟨l, rfl, items, e1, e2⟩ := ev1_own (P := fun l => ∃ items, evI cf it ρ = some items ∧ compGo (turnC cf [i] one1 c e ρ) items = some l) hd fun r hr => by
    obtain ⟨items, l, e1, e2, e3⟩ := zgt hr
    exact ⟨l, e3, items, e1, e2⟩
  exact zi6 h hy hf hs H e1 e2 false (fun e => nomatch e) (by rw [if_neg (by decide)]; exact hQ)
end
theorem zfY {kindOf : Str → Option NameKind} {x : Str} : ∀ {ps : List Str} {vs : List Value} {m : SV}, x ∉ ps → bindL kindOf (ps.zip vs) m x = m x
  | [], _, _, _ => rfl
  | _ :: _, [], _, _ => rfl
  | n :: ps, v :: vs, m, h => by
    rw [List.zip_cons_cons]
    unfold bindL
    rw [zfY fun h' => h (List.mem_cons_of_mem _ h')]
    split
    · exact if_neg fun (e : x = n) => h (by rw [e]; exact List.mem_cons_self)
    · rfl
theorem zfe {kindOf : Str → Option NameKind} {x : Str} {v : Value} (hk : kindOf x = some .local) : ∀ {ps : List Str} {vs : List Value} {m : SV} {k : Nat}, ps.Nodup → ps[k]? = some x → vs[k]? = some v → bindL kindOf (ps.zip vs) m x = some v
  | [], _, _, _, _, h, _ => nomatch h
  | _ :: _, [], _, _, _, _, h => nomatch h
  | n :: ps, v' :: vs, m, k, hn, h1, h2 => by
    obtain ⟨n1, hn'⟩ := List.nodup_cons.mp hn
    rw [List.zip_cons_cons]
    unfold bindL
    cases k with
    | zero =>
      simp only [List.getElem?_cons_zero, Option.some.injEq] at h1 h2
      subst h1; subst h2
      rw [zfY n1, if_pos hk]
      exact if_pos rfl
    | succ k =>
      simp only [List.getElem?_cons_succ] at h1 h2
      exact zfe hk hn' h1 h2
theorem zfZ {kindOf : Str → Option NameKind} {x : Str} : ∀ {ps : List Str} {vs : List Value} {m : SV}, x ∉ ps → bindC kindOf (ps.zip vs) m x = m x
  | [], _, _, _ => rfl
  | _ :: _, [], _, _ => rfl
  | n :: ps, v :: vs, m, h => by
    rw [List.zip_cons_cons]
    unfold bindC
    rw [zfZ fun h' => h (List.mem_cons_of_mem _ h')]
    split
    · rfl
    · exact if_neg fun (e : x = n) => h (by rw [e]; exact List.mem_cons_self)
theorem zff {kindOf : Str → Option NameKind} {x : Str} {v : Value} (hk : kindOf x ≠ some .local) : ∀ {ps : List Str} {vs : List Value} {m : SV} {k : Nat}, ps.Nodup → ps[k]? = some x → vs[k]? = some v → bindC kindOf (ps.zip vs) m x = some v
  | [], _, _, _, _, h, _ => nomatch h
  | _ :: _, [], _, _, _, _, h => nomatch h
  | n :: ps, v' :: vs, m, k, hn, h1, h2 => by
    obtain ⟨n1, hn'⟩ := List.nodup_cons.mp hn
    rw [List.zip_cons_cons]
    unfold bindC
    cases k with
    | zero =>
      simp only [List.getElem?_cons_zero, Option.some.injEq] at h1 h2
      subst h1; subst h2
      rw [zfZ n1, if_neg hk]
      exact if_pos rfl
    | succ k =>
      simp only [List.getElem?_cons_succ] at h1 h2
      exact zff hk hn' h1 h2
theorem zbx {x : Str} : ∀ {names : List (Str × NameKind)} {n : Nat} {acc : List (Str × Addr)}, (acc.lookup x).isSome ∨ (x, NameKind.cell) ∈ names → ((cellsFrom n names acc).lookup x).isSome
  | [], n, acc, h => by
    unfold cellsFrom
    rcases h with h | h
    · exact h
    · cases h
  | (y, k) :: r, n, acc, h => by
    unfold cellsFrom
    split
    · rename_i hk
      refine zbx ?_
      rw [List.lookup_cons]
      cases hx : x == y with
      | true => exact .inl rfl
      | false =>
        rcases h with h | h
        · exact .inl h
        · rcases List.mem_cons.mp h with e | h
          · cases e; simp at hx
          · exact .inr h
    · rename_i hk
      refine zbx (h.imp id fun h => ?_)
      rcases List.mem_cons.mp h with e | h
      · cases e; simp at hk
      · exact h
noncomputable def boundTo (fn : Fn) (args : List D) : Option (List D) :=
  if fn.va then (if fn.np ≤ args.length ∧ args.length ≤ lim then some (args.take fn.np ++ [.tup (args.drop fn.np)]) else none)
  else if args.length = fn.np then some args else none
noncomputable def BindOK (cx : XCx) (fd : FuncData) (fn : Fn) (ps : List Str) : Prop :=
  ∀ A F s vs args ds, CxOk cx → Wd cx F s → RepL cx.T F s.heap vs args → boundTo fn args = some ds → ∀ (Q : List (Str × Value) → Shared → Prop) (E : VP),
    (∀ F' s' vs', Step cx F s F' s' → RepL cx.T F' s'.heap vs' ds → Q (ps.zip vs') s') → wpAny (model cx.prog cx.w) A (bindArgs fd ⟨vs, []⟩) Q E s
set_option genInjectivity false in
structure FnIs (cx : XCx) (ε : Sc) (i : Nat) (fn : Fn) (fd : FuncData) (body : List Stmt) (ps : List Str) : Prop where
  obj : ∃ o, cx.h0.get? (cx.fa i) = some o ∧ o.data = .func fd
  nx : ¬ cx.X (cx.fa i)
  code : ∃ c, fd.code = .ref c ∧ ¬ cx.X c ∧ cx.h0.CodeRec (.ref c) fd.qualname
  body : fd.body = .stmts body
  codeAt : ∀ c q, ε.code = some (c, q) → fd.code = .ref c ∧ fd.qualname ++ ".<locals>." = q
  clo : fd.closure = []
  glob : fd.globals = mainGlobals
  blt : fd.builtins = builtinsNs
  co : fd.scope.isCoroutine = false
  gen : fd.scope.isGenerator = false
  kind : fd.scope.kind = .function
  names : fd.scope.names = ε.kinds
  bind : BindOK cx fd fn ps
  len : ∀ args ds, boundTo fn args = some ds → ds.length = ps.length
  nodup : ps.Nodup
  pv : ∀ (k : Nat) x, ps[k]? = some x → ε.vars.lookup x = some k
  vk : ∀ x j, ε.vars.lookup x = some j → ε.kinds.lookup x = some .local ∨ ε.kinds.lookup x = some .cell
  sc : ScOK ε
theorem zea {fn : Fn} {args : List D} {ρ : List Slot} (h : bindD fn args = some ρ) : ∃ ds k, boundTo fn args = some ds ∧ ρ = ds.map .val ++ List.replicate k .unset := by
  unfold bindD at h
  unfold boundTo
  split at h
  · split at h <;> cases h
    rename_i h1 h2
    rw [if_pos h1, if_pos h2]
    exact ⟨_, fn.ns - fn.np - 1, rfl, by simp⟩
  · split at h <;> cases h
    rename_i h1 h2
    rw [if_neg h1, if_pos h2]
    exact ⟨_, _, rfl, rfl⟩
theorem zb2 {ds : List D} {k j : Nat} : slotAt (ds.map .val ++ List.replicate k .unset) j = (match ds[j]? with | some d => .val d | none => .unset) := by
  unfold slotAt
  rw [List.getD_eq_getElem?_getD, List.getElem?_append]
  split
  · rename_i h
    rw [List.getElem?_map]
    rw [List.length_map] at h
    rw [List.getElem?_eq_getElem h]
    rfl
  · rename_i h
    rw [List.length_map] at h
    rw [List.getElem?_eq_none (Nat.le_of_not_lt h), List.getElem?_replicate]
    split <;> rfl
section
variable {cx : XCx}
theorem zkF {d n : Nat} (h : d + (n + 1) < 890) : d + 1 + n < 890 := by omega
theorem zkD {u n : Nat} (h : u + 10 * (n + 1) + 200 < 9900) : u + 3 + 10 * n + 200 < 9900 := by omega
theorem zkE {u n : Nat} (h : u + 10 * (n + 1) + 200 < 9900) : u + 3 + 10 * n + 207 < 9900 := by omega
theorem zjc {ε : Sc} {i : Nat} {fn : Fn} {fd : FuncData} {body : List Stmt} {ps : List Str} (X : FnIs cx ε i fn fd body ps) (hs : SoundSs cx ε body fn.body) (ok : CxOk cx) {n : Nat} {cf : CfT} (hc : CallOK cx n cf)
    {args : List D} {ρ ρ' : List Slot} {o : Out} {d : D} (hb : bindD fn args = some ρ) (he : ex cf fn.body ρ = some (ρ', o)) (hd : o = .ret d ∨ (o = .next ∧ d = .none))
    {A : Around} {F : AP} {s : Shared} {vs : List Value} (bud : Bud (n + 1) A) (w : Wd cx F s) (q : RepL cx.T F s.heap vs args) {Rs : Result → Shared → Prop}
    (hR : ∀ v F' s', Step cx F s F' s' → Rep cx.T F' s'.heap v d → Rs (.ok (.ret v)) s') : codeAny (model cx.prog cx.w) A (.call (.ref (cx.fa i)) ⟨vs, []⟩) Rs s := by
  obtain ⟨ob, g, hfd⟩ := X.obj
  obtain ⟨c, hcode, ncx, hcd⟩ := X.code
  obtain ⟨ds, kk, hbd, rfl⟩ := zea hb
  have hroom : A.depth < recursionLimit := Nat.lt_of_le_of_lt (Nat.le_add_right _ _) (Nat.lt_trans bud.dp (by decide))
  refine codeAny_call_function hroom (w.base _ _ g X.nx) hfd X.co X.gen X.body (by rw [hcode]; exact hcd.at fun o e => w.base _ o e ncx) ?_
  refine X.bind A.in1 F s vs args ds ok w q hbd _ _ fun F₁ s₁ vs' st₁ q₁ => ?_
  rw [X.clo]
  have hlen : ds.length = ps.length := X.len _ _ hbd
  have hvl : vs'.length = ps.length := q₁.length.trans hlen
  have kindOf : ∀ x, (callEnvC fd s₁.heap.objs.size (cx.fa i)).kindOf x = ε.kinds.lookup x := fun x => by show fd.scope.names.lookup x = _; rw [X.names]
  have inps : ∀ x ∈ ps, ∃ k, ps[k]? = some x := fun x hx => by
    obtain ⟨k, hk, e⟩ := List.mem_iff_getElem.mp hx
    exact ⟨k, by rw [List.getElem?_eq_getElem hk, e]⟩
  have hkind : ∀ x ∈ ps.zip vs', fd.scope.names.lookup x.1 = some .local ∨ (fd.scope.names.lookup x.1 = some .cell ∧ ((cellsFrom (s₁.heap.objs.size + 1) fd.scope.names []).lookup x.1).isSome = true) := by
    intro x hx
    obtain ⟨k, hk⟩ := inps x.1 (List.of_mem_zip hx).1
    rw [X.names]
    rcases X.vk x.1 k (X.pv k x.1 hk) with h | h
    · exact .inl h
    · exact .inr ⟨h, zbx (.inr (zbo h))⟩
  refine wpAny_newFunctionEnv_cells X.kind hkind fun env hen s₂ ic => ?_
  have hen' : env = callEnvC fd s₁.heap.objs.size (cx.fa i) := hen
  subst hen'
  obtain ⟨h₂, tk₂, rfl⟩ := ic.toInCall.same
  have keep₂ := ic.toInCall.keep
  have st₂ : Step cx F₁ s₁ F₁ { s₁ with heap := h₂, toks := tk₂ } := Step.grown ok st₁.wd tk₂ keep₂
  have w₂ := st₂.wd
  refine ⟨w₂.lim ok, codeAny_func ?_⟩
  let E₀ : Env := callEnvC fd s₁.heap.objs.size (cx.fa i)
  let m₀ : Str → Option Value := bindL E₀.kindOf (ps.zip vs') fun _ => none
  let cm₀ : Str → Option Value := bindC E₀.kindOf (ps.zip vs') fun _ => none
  have frL : s₁.heap.get? s₁.heap.objs.size = none := zbe _
  have frC : ∀ n c, E₀.cells.lookup n = some c → s₁.heap.get? c = none ∧ c ≠ s₁.heap.objs.size := fun n c hc => by
    have hlt : s₁.heap.objs.size < c := ic.above n c (mem_of_lookup hc)
    refine ⟨?_, Nat.ne_of_gt hlt⟩
    cases e : s₁.heap.get? c with
    | none => rfl
    | some o => exact absurd (Heap.lt_size e) (Nat.not_lt.mpr (Nat.le_of_lt hlt))
  have noOwn : ∀ j l, slotAt (ds.map Slot.val ++ List.replicate kk .unset) j ≠ .own l := fun j l e => by
    rw [zb2] at e
    split at e <;> cases e
  have fresh₀ : ∀ a, Mut E₀ (ds.map Slot.val ++ List.replicate kk .unset) (fun _ => 0) a → s₁.heap.get? a = none := fun a h => by
    rcases h with rfl | ⟨n, hn⟩ | ⟨j, l, hj, _⟩
    · exact frL
    · exact (frC n a hn).1
    · exact absurd hj (noOwn j l)
  have slots : ∀ x j, ε.vars.lookup x = some j → (ε.kinds.lookup x = some .local ∧ SlotRep cx F₁ h₂ (fun _ => 0) j (m₀ x) (slotAt (ds.map Slot.val ++ List.replicate kk .unset) j)) ∨
      ((ε.kinds.lookup x = some .cell ∨ ε.kinds.lookup x = some .free) ∧ (∃ c, E₀.cells.lookup x = some c) ∧ SlotRep cx F₁ h₂ (fun _ => 0) j (cm₀ x) (slotAt (ds.map Slot.val ++ List.replicate kk .unset) j)) := by
    intro x j hx
    have look : ∀ dj, ds[j]? = some dj → ps[j]? = some x ∧ ∃ v, vs'[j]? = some v ∧ Rep cx.T F₁ h₂ v dj := fun dj hj => by
      obtain ⟨v, hv, r⟩ := q₁.get hj
      have hlt : j < ps.length := by rw [← hlen]; exact (List.getElem?_eq_some_iff.mp hj).1
      have hp : ps[j]? = some ps[j] := List.getElem?_eq_getElem hlt
      have := X.sc.inj x ps[j] j hx (X.pv j _ hp)
      exact ⟨by rw [hp, this], v, hv, st₂.rep st₁.wd r⟩
    rw [zb2]
    rcases X.vk x j hx with hk | hk
    · left
      refine ⟨hk, ?_⟩
      split
      · rename_i dj hj
        obtain ⟨hp, v, hv, r⟩ := look dj hj
        have : m₀ x = some v := zfe (by rw [kindOf]; exact hk) X.nodup hp hv
        rw [this]
        exact .val r
      · exact .unset
    · right
      refine ⟨.inl hk, ?_, ?_⟩
      · refine Option.isSome_iff_exists.mp (zbx (.inr ?_))
        rw [X.names]
        exact zbo hk
      · split
        · rename_i dj hj
          obtain ⟨hp, v, hv, r⟩ := look dj hj
          have : cm₀ x = some v := zff (by rw [kindOf, hk]; intro e; cases e) X.nodup hp hv
          rw [this]
          exact .val r
        · exact .unset
  have fr : Frm cx ε E₀ F₁ { s₁ with heap := h₂, toks := tk₂ } (ds.map Slot.val ++ List.replicate kk .unset) (fun _ => 0) m₀ cm₀ := by
    refine ⟨⟨X.kind, X.names, X.glob, X.blt, X.codeAt, st₁.wd.newNotX frL, fun n c hc => st₁.wd.newNotX (frC n c hc).1, ic.toInCall.ns, ic.cell, slots⟩, st₁.wd.newNotF frL, fun n c hc => ⟨st₁.wd.newNotF (frC n c hc).1, (frC n c hc).2⟩, fun n n' c h h' => name_of_addr ic.apart (mem_of_lookup h) (mem_of_lookup h'), fun j _ l _ h => absurd h (noOwn j l), fun j l h => absurd h (noOwn j l)⟩
  have budE : BudE n (A.deeper E₀) := by
    obtain ⟨l, hl⟩ := bud.fs
    refine ⟨⟨bud.hd, zkF bud.dp, zkD bud.un, ⟨_, by show A.frames.map _ = _; rw [hl]; rfl⟩⟩, zkE bud.un, E₀, l, by show A.frames.map _ = _; rw [hl]; rfl, X.gen, X.co, X.blt, X.glob⟩
  refine hs n cf (A.deeper E₀) E₀ F₁ _ _ _ m₀ cm₀ ⟨ok, X.sc, hc, budE, w₂, fr⟩ ρ' o he _ _ fun f F' s' ad' m' cm' x fr' out => ?_
  have stF : Step cx F s F' s' := by
    refine st₁.trans ⟨fun a h => x.sub a h, fun a h => ?_, fun a o e nx => x.keep a o (keep₂ a o e) nx fun hm => ?_, x.os.trans rfl, x.wd⟩
    · rcases x.new a h with q | q | q
      · exact .inl q
      · right
        cases e : s₁.heap.get? a with
        | none => rfl
        | some o => rw [show ({ s₁ with heap := h₂, toks := tk₂ } : Shared).heap.get? a = some o from keep₂ a o e] at q; cases q
      · exact .inr (fresh₀ a q)
    · have := fresh₀ a hm
      rw [e] at this; cases this
  rcases hd with rfl | ⟨rfl, rfl⟩
  · cases out with
    | ret r => exact hR _ F' s' stF r
  · cases out
    exact hR _ F' s' stF .none
theorem zfc (ok : CxOk cx) {fns : Nat → Option Fn} (h : ∀ i fn, fns i = some fn → ∃ ε fd body ps, FnIs cx ε i fn fd body ps ∧ SoundSs cx ε body fn.body) (hk : ∀ n, cx.cok (callF fns n) := by intro _; exact trivial) : ∀ n, CallOK cx n (callF fns n)
  | 0 => ⟨hk 0, fun f args d e => by unfold callF at e; cases e⟩
  | n + 1 => ⟨hk (n + 1), fun f args d e => by
    unfold callF at e
    split at e
    · cases e
    · rename_i fn hf
      obtain ⟨ε, fd, body, ps, X, hs⟩ := h f fn hf
      obtain ⟨o, g, hfd⟩ := X.obj
      refine ⟨⟨o, fd, g, hfd, X.nx⟩, fun A F s vs bud w q Rs hR => ?_⟩
      split at e
      · cases e
      · rename_i ρ hb
        split at e
        · rename_i ρ' d' he
          cases e
          exact zjc X hs ok (zfc ok h hk n) hb he (.inl rfl) bud w q hR
        · rename_i ρ' he
          cases e
          exact zjc X hs ok (zfc ok h hk n) hb he (.inr ⟨rfl, rfl⟩) bud w q hR
        · cases e⟩
end
set_option genInjectivity false in
structure TabG (cx : XCx) where
  d : Addr
  f : Int → Option Value
  nx : ¬ cx.X d
  hm : cx.h0.MapOf (intKind cx.prog cx.w) d f
  sys : (d == sysModules) = false
  yes : ∀ c : Nat, c < 128 → special.contains c = true → ∃ u, f (c : Int) = some (.str ⟨#[92, c]⟩ u)
  no : ∀ c : Nat, c < 128 → special.contains c = false → f (c : Int) = none
section
variable {cx : XCx} {ε : Sc}
theorem zdP (G : TabG cx) {o : Expr} {y : X} {x : Str} {p apos pos : Pos} (hb : plainBase o = true) (hl : (apos.endLine == pos.line) = true) (h : Sound cx ε o y) (hk : ε.kinds.lookup x = some .globalImplicit) (hv : cx.mg x = some (.ref G.d)) (hd : (x == ("__debug__" : Str)) = false) :
    Sound cx ε (.Call (.Attribute o "translate" apos) [.Name x p] [] pos) (.op .translate (.cons y .nil)) := by
  refine Sound.ofE ?_ fun _ => rfl
  intro n cf A env F s ρ ad m cm H res he Q E hQ
  obtain ⟨rs, e1, e2⟩ := ev_op he
  obtain ⟨r0, rs', e3, e4, rfl⟩ := zax e1
  cases zbX e4
  refine zch hb hl (by simp) rfl ?_
  refine h.ev n cf A env F s ρ ad m cm H r0 e3 _ _ fun v F' s' st q => ?_
  simp only [List.map_cons, List.map_nil] at e2; delta opF at e2; dsimp only at e2
  unfold opTranslate at e2
  split at e2
  · rename_i c ec
    split at e2 <;> cases e2
    rename_i hc
    have qb := q.brep
    have ec' : r0.ds = .str [c] := by
      have := ec
      simpa using this
    rw [ec'] at qb
    obtain ⟨t, rfl, pp, z⟩ := qb.str_inv
    have noref : ∀ a, Value.str ⟨[c].toArray⟩ t = .ref a → ∃ o, s'.heap.get? a = some o ∧ o.dict = none := fun _ e => nomatch e
    with_reducible refine GM.of (.str ⟨[c].toArray⟩ t) (typeIs_str _ _ _) PySem.F.slot_str_translate PySem.F.type_str_translate noref ?_
    have H1 := H.step st
    have hst : starred (.Name x p) = false := rfl
    rw [zau hst, zaH]
    refine Calls.callWith_builtin rfl (Calls.evalArgs_plain (Calls.spliced_cons (zci H1 hk hv hd (Calls.spliced_nil ?_))))
    show wpAny _ _ (call (.builtin "str.translate") [.str ⟨#[c]⟩ t, .ref G.d]) _ _ s'
    have hm : s'.heap.MapOf (intKind cx.prog cx.w) G.d G.f := let ⟨o, es, ep, g, r⟩ := G.hm; ⟨o, es, ep, st.wd.base _ _ g G.nx, r⟩
    cases hsp : special.contains c with
    | true =>
      obtain ⟨u, hu⟩ := G.yes c hc hsp
      refine call_meetsIn PySem.F.slot_str_translate (typeIs_str _ _ _) PySem.F.entry_str_translate (PySem.F.args_str_translate_2 _ _) (zeI (f := G.f) (x := c) (u := u) hc) ⟨⟨hm, hu⟩, fun k k' => ?_⟩
      rw [if_pos hsp] at hQ
      refine hQ _ F' _ (st.toks k') (.val (.str (l := [92, c]) k (fun c' h => ?_) (by simp [lim])))
      simp only [List.mem_cons, List.not_mem_nil, or_false] at h
      rcases h with rfl | rfl <;> omega
    | false =>
      refine call_meetsIn PySem.F.slot_str_translate (typeIs_str _ _ _) PySem.F.entry_str_translate (PySem.F.args_str_translate_2 _ _) (zeb (f := G.f) hc G.sys) ⟨⟨hm, G.no c hc hsp, H.bud.hd⟩, fun h' k k' hk' => ?_⟩
      rw [if_neg (by rw [hsp]; decide)] at hQ
      refine hQ _ F' _ (st.trans (Step.grown H.ok st.wd k' hk')) (.val (.str (l := [c]) k (fun c' h => ?_) (by simp [lim])))
      simp only [List.mem_cons, List.not_mem_nil, or_false] at h
      subst h; omega
  · cases e2
theorem zh8 {a b : PySem.Str} {e : Expr} {y : X} {k k' : Nat} {p p' p'' pos : Pos} {la lb : List Nat} (h : Sound cx ε e y) (ha : constD (.str a) = some (.str la)) (hb : constD (.str b) = some (.str lb)) :
    Sound cx ε (.JoinedStr [.Constant (.str a) k p, .FormattedValue e (-1) none p', .Constant (.str b) k' p''] pos) (.op .fmt (.cons (.const (.str la)) (.cons y (.cons (.const (.str lb)) .nil)))) := by
  refine Sound.ofE ?_ fun _ => rfl
  intro n cf A env F s ρ ad m cm H res he Q E hQ
  obtain ⟨rs, e1, e2⟩ := ev_op he
  obtain ⟨r0, rs0, e3, e4, rfl⟩ := zax e1
  obtain ⟨r1, rs1, e5, e6, rfl⟩ := zax e4
  obtain ⟨r2, rs2, e7, e8, rfl⟩ := zax e6
  cases zbX e8
  have c0 : r0 = .val (.str la) := by replace e3 := (zam _).symm.trans e3; cases e3; rfl
  have c2 : r2 = .val (.str lb) := by replace e7 := (zam _).symm.trans e7; cases e7; rfl
  subst c0; subst c2
  obtain ⟨l2, hr1, e2⟩ := Option.bind_eq_some_iff.mp (show (strO r1.ds).bind (fun b => strD (la ++ b ++ lb)) = some res from e2)
  replace hr1 := zbU hr1
  obtain ⟨hz, rfl⟩ := zcb (show (if (la ++ l2 ++ lb).length ≤ lim then some (R.val (.str (la ++ l2 ++ lb))) else none) = some res from e2)
  · skip
    refine wpAny_JoinedStr ?_
    show wpAny _ _ (eval (.Constant (.str a) k p) env) _ E s
    refine (zab ha).ev n cf A env F s ρ ad m cm H _ e3 _ _ fun v F1 s1 st1 q1 => ?_
    have q1 := q1.brep
    obtain ⟨t1, rfl, p1, z1⟩ := BRep.str_inv (l := la) q1
    have H1 := H.step st1
    refine ⟨_, _, rfl, ?_, ?_⟩
    · show (Str.empty ++ PySem.Str.mk la.toArray).length ≤ sizeLine
      have : (Str.empty ++ PySem.Str.mk la.toArray).length = la.length := by
        rw [strLen_append]; show 0 + la.toArray.size = _; simp
      rw [this]; exact zba z1
    show wpAny _ _ (eval (.FormattedValue e (-1) none p') env) _ E s1
    refine wpAny_FormattedValue_plain ?_
    refine h.ev n cf A env F1 s1 ρ ad m cm H1 r1 e5 _ _ fun v F2 s2 st2 q2 => ?_
    have q2 := q2.brep
    rw [hr1] at q2
    obtain ⟨t2, rfl, p2, z2⟩ := q2.str_inv
    have len1 : (Str.empty ++ PySem.Str.mk la.toArray).length = la.length := by
      rw [strLen_append]; show 0 + la.toArray.size = _; simp
    have len2 : (Str.empty ++ PySem.Str.mk la.toArray ++ PySem.Str.mk l2.toArray).length = la.length + l2.length := by
      rw [strLen_append, len1]; show _ + l2.toArray.size = _; simp
    have hz' : la.length + l2.length + lb.length ≤ lim := by rw [List.length_append, List.length_append] at hz; exact hz
    have rest : ∀ t2' k2, ∃ y t, (Value.str ⟨l2.toArray⟩ t2') = .str y t ∧ (Str.empty ++ PySem.Str.mk la.toArray ++ y).length ≤ sizeLine ∧ Joins (model cx.prog cx.w) A E (evalEach [.Constant (.str b) k' p''] env) (Str.empty ++ PySem.Str.mk la.toArray ++ y) (fun out s₁ => out.length ≤ sizeLine ∧ Q (.str out s₁.toks) { s₁ with toks := s₁.toks + 1 }) { s2 with toks := k2 } := by
      intro t2' k2
      refine ⟨_, _, rfl, by rw [len2]; exact zba (by omega), ?_⟩
      show wpAny _ _ (eval (.Constant (.str b) k' p'') env) _ E _
      have H2 := (H1.step st2).step ((Step.refl (H1.step st2).wd).toks k2)
      refine (zab hb).ev n cf A env F2 _ ρ ad m cm H2 _ e7 _ _ fun v F3 s3 st3 q3 => ?_
      have q3 := q3.brep
      obtain ⟨t3, rfl, p3, z3⟩ := BRep.str_inv (l := lb) q3
      have len3 : (Str.empty ++ PySem.Str.mk la.toArray ++ PySem.Str.mk l2.toArray ++ PySem.Str.mk lb.toArray).length = la.length + l2.length + lb.length := by
        rw [strLen_append, len2]; show _ + lb.toArray.size = _; simp
      refine ⟨_, _, rfl, by rw [len3]; exact zba hz', ?_⟩
      refine ⟨by rw [len3]; exact zba hz', ?_⟩
      have e : (Str.empty ++ PySem.Str.mk la.toArray ++ PySem.Str.mk l2.toArray ++ PySem.Str.mk lb.toArray) = PySem.Str.mk (la ++ l2 ++ lb).toArray := by
        show PySem.Str.mk (#[] ++ la.toArray ++ l2.toArray ++ lb.toArray) = _
        simp
      rw [e]
      refine hQ _ F3 _ ((st1.trans ((st2.toks k2).trans st3)).toks _) (.val (.str _ (fun c hc => ?_) (by simpa [List.length_append] using hz)))
      rcases List.mem_append.mp hc with hc | hc
      · rcases List.mem_append.mp hc with hc | hc
        · exact p1 c hc
        · exact p2 c hc
      · exact p3 c hc
    refine wpAny_formatField_str (rest t2 s2.toks) (rest s2.toks (s2.toks + 1)) ?_
    show l2.toArray.size ≤ sizeLine
    rw [List.size_toArray]; exact zba z2
end
end Mine
end
section MpZ2x
open PySem PySem.Builtin.Str
namespace Mine
open PySem.Builtin PySem.Builtin.Re
section
variable {prog : Program} {w : World} {A A₀ : Around} {E : VP} {s : Shared} {P C : Addr} {codes : Array Value} {a : Array Nat} {u : Tok}
theorem zkp : ∀ (ps : List (PySem.Str × Tok)), (∀ p ∈ ps, p.1.cps.size ≤ 1000) → (ps.map fun x => x.1.cps.size).sum ≤ ps.length * 1000
  | [], _ => Nat.le_refl _
  | p :: r, h => by
    have h1 := h p List.mem_cons_self
    have h2 := zkp r fun q hq => h q (List.mem_cons_of_mem _ hq)
    simp only [List.map_cons, List.sum_cons, List.length_cons]
    rw [Nat.succ_mul, Nat.add_comm]; exact Nat.add_le_add h2 h1
theorem zhD {h : Heap} {a : Addr} {vs : Array Value} {n : Nat} (g : h.get? a = some (lobj vs n)) : h.IsList a vs := ⟨_, g, rfl, n, rfl⟩
theorem ziF {R : Result → Shared → Prop} (hp : PatAt s.heap P C codes) {repl : Value} {n done start : Nat} {must : Bool} {pc : Addr} {ps : List (PySem.Str × Tok)} {kk : Nat} (hl : s.heap.get? pc = some (lobj (strValues ps).toArray kk))
    (hf : ∃ k, k < 100 ∧ ((Sre.forSearch reCode a 1 start a.size must).runFor (4 * (k + 1))).outcome = some .failed) (hz : ps.length ≤ 1000) (ha : a.size ≤ 1000) (hps : ∀ p ∈ ps, p.1.cps.size ≤ 100)
    {res : PySem.Str} (hres : Txt.join Str.empty (ps.map (·.1) ++ (if done < a.size then [⟨a.extract done a.size⟩] else [])) = res)
    (h : ∀ h' tk t, Heap.SameBut pc s.heap h' → R (.ok (.ret (.str res t))) { s with heap := h', toks := tk }) :
    wpAny (model prog w) A (Builtin.«re.Pattern.sub.loop» ⟨[.ref P, .str ⟨a⟩ u, repl, rawInt 1, rawInt 0, rawInt n, rawInt done, rawInt start, .bool must, .ref pc, .bool false], []⟩) (fun fin s' => match fin with | .done f => R (.ok f) s' | .again c' => c'.quiet = true ∧ codeAny (model prog w) A₀ c' R s') E s := by
  obtain ⟨k, hk, ho⟩ := hf
  unfold Builtin.«re.Pattern.sub.loop»
  refine wb (zgB hp ?_)
  show wpAny _ _ (reNextFound _ start must >>= _) _ _ _
  unfold reNextFound
  refine wb (zhK k hk ho ?_)
  have jn : ∀ (ps' : List (PySem.Str × Tok)) (k' : Nat) (s' : Shared), s'.heap.get? pc = some (lobj (strValues ps').toArray k') → ps'.length ≤ 1001 → (∀ p ∈ ps', p.1.cps.size ≤ 1000) → Txt.join Str.empty (ps'.map (·.1)) = res → (∀ tk t, R (.ok (.ret (.str res t))) { s' with toks := tk }) →
      wpAny (model prog w) A (do
        let joiner ← reSlice a 0 0 0
        let text ← if ((← seqItems? (.ref pc)).getD #[]).isEmpty then pure joiner
          else call (.builtin (if (0 : Nat) == 0 then "str.join" else "bytes.join")) [joiner, .ref pc]
        if false then ret (← holding [text] do newTuple [text, ← mkInt (n : Int)]) else ret text) (fun fin s' => match fin with | .done f => R (.ok f) s' | .again c' => c'.quiet = true ∧ codeAny (model prog w) A₀ c' R s') E s' := by
    intro ps' k' s' g hz' hsz' hr hR
    have e0 : (PySem.Str.mk (a.extract 0 0)) = Str.empty := by simp [Str.empty]
    unfold reSlice
    simp only [beq_self_eq_true, if_true]
    rw [e0]
    refine wb (wpAny_mkStr ?_ (by decide))
    refine wb (wb (wpAny_load g (wpAny_pure ?_)))
    cases ps' with
    | nil =>
      have hr' : res = Str.empty := by rw [← hr]; rfl
      rw [hr'] at hR
      exact wpAny_pure (hR _ _)
    | cons p r =>
      rw [if_neg (by simp [strValues])]
      refine wb (SC.join (l := p :: r) (texts := (p :: r).map (·.1)) (zhD g) rfl ?_ fun t' k2 => ?_)
      · unfold JoinOk tooLong
        rw [ze2, Nat.zero_add]
        have hb := zkp (p :: r) hsz'
        have hs : ((List.map (fun x => x.1) (p :: r)).map fun x => x.length + Str.empty.length).sum = ((p :: r).map fun x => x.1.cps.size).sum := by
          rw [List.map_map]; rfl
        rw [hs]
        simp only [Bool.not_eq_true', decide_eq_false_iff_not]
        rw [sizeLine_eq]
        have : (p :: r).length * 1000 ≤ 1001 * 1000 := Nat.mul_le_mul_right _ hz'
        exact Nat.not_lt.mpr (Nat.le_trans hb (Nat.le_trans this (by decide)))
      · rw [hr]
        exact wpAny_pure (hR _ _)
  by_cases hd : done < a.size
  · rw [if_pos hd] at hres
    show wpAny _ _ (do
      if (done : Int).toNat < a.size then updateSeq pc (·.push (← reSlice a 0 (done : Int).toNat a.size))
      let joiner ← reSlice a 0 0 0
      let text ← if ((← seqItems? (.ref pc)).getD #[]).isEmpty then pure joiner
        else call (.builtin (if (0 : Nat) == 0 then "str.join" else "bytes.join")) [joiner, .ref pc]
      if false then ret (← holding [text] do newTuple [text, ← mkInt (n : Int)]) else ret text) _ _ _
    rw [if_pos (by simpa using hd)]
    have e1 : (done : Int).toNat = done := Int.toNat_natCast done
    rw [e1]
    unfold reSlice
    simp only [beq_self_eq_true, if_true]
    have hsz : (PySem.Str.mk (a.extract done a.size)).cps.size ≤ 1000 := by show (a.extract done a.size).size ≤ 1000; rw [Array.size_extract]; exact Nat.le_trans (Nat.sub_le _ _) (Nat.le_trans (Nat.min_le_left _ _) ha)
    refine wb (wpAny_mkStr ?_ (by show (a.extract done a.size).size ≤ _; have := hsz; rw [sizeLine_eq]; exact Nat.le_trans hsz (by decide)))
    have hlp : (strValues ps).toArray.size ≤ sizeLine := by rw [List.size_toArray]; unfold strValues; rw [List.length_map, sizeLine_eq]; exact Nat.le_trans hz (by decide)
    refine wb (wpAny_updateSeq (o := lobj (strValues ps).toArray kk) hl rfl ?_ hlp (by rw [Array.size_push]; omega))
    have e2 : (strValues ps).toArray.push (.str ⟨a.extract done a.size⟩ s.toks) = (strValues (ps ++ [(⟨a.extract done a.size⟩, s.toks)])).toArray := by
      unfold strValues; simp
    have g' := IsL.update (n := kk) (items := (strValues ps).toArray) (show IsL s.heap pc (strValues ps).toArray kk from hl) fun x => x.push (.str ⟨a.extract done a.size⟩ s.toks)
    simp only [e2] at g'
    have := jn (ps ++ [(⟨a.extract done a.size⟩, s.toks)]) _ { s with heap := s.heap.update pc (Obj.mapSeq fun x => x.push (.str ⟨a.extract done a.size⟩ s.toks)), toks := s.toks + 1 } g' (by rw [List.length_append]; exact Nat.succ_le_succ hz) (fun p hp => ?_) (by rw [List.map_append]; exact hres) (fun tk t => h _ _ _ (Heap.SameBut.update ..))
    · unfold reSlice at this
      exact this
    · rcases List.mem_append.mp hp with hp | hp
      · exact Nat.le_trans (hps p hp) (by decide)
      · simp only [List.mem_cons, List.not_mem_nil, or_false] at hp
        subst hp
        exact hsz
  · rw [if_neg hd, List.append_nil] at hres
    show wpAny _ _ (do
      if (done : Int).toNat < a.size then updateSeq pc (·.push (← reSlice a 0 (done : Int).toNat a.size))
      let joiner ← reSlice a 0 0 0
      let text ← if ((← seqItems? (.ref pc)).getD #[]).isEmpty then pure joiner
        else call (.builtin (if (0 : Nat) == 0 then "str.join" else "bytes.join")) [joiner, .ref pc]
      if false then ret (← holding [text] do newTuple [text, ← mkInt (n : Int)]) else ret text) _ _ _
    rw [if_neg (by simpa using hd)]
    exact jn ps kk s hl (Nat.le_succ_of_le hz) (fun p hp => Nat.le_trans (hps p hp) (by decide)) hres (fun tk t => h s.heap tk t (Heap.SameBut.refl ..))
end
end Mine
end MpZ2x
section MpZ3x
open PySem PySem.Builtin.Str
namespace Mine
open PySem.Builtin PySem.Builtin.Re
section
variable {prog : Program} {w : World} {A A₀ : Around} {E : VP} {s : Shared} {P C : Addr} {codes : Array Value} {a : Array Nat} {u : Tok}
end
end Mine
end MpZ3x
section MpZ4x
open PySem PySem.Builtin.Str
namespace Mine
open PySem.Builtin PySem.Builtin.Re
theorem fn_call : ∃ v, typeLookup (.type "function") "__call__" = pure (some v) := ⟨.builtin "function.__call__", by rw [typeLookup_type, builtinLookup_eq_fast]; kernel_rfl⟩
theorem zc6 : isSubtype (.type "str") (.type "bytearray") = pure false := by rw [isSubtype_type]; kernel_rfl
section
variable {prog : Program} {w : World} {A A₀ : Around} {E : VP} {s : Shared} {P C : Addr} {codes : Array Value} {a : Array Nat} {u : Tok}
theorem zh3 {R : Result → Shared → Prop} (hp : PatAt s.heap P C codes) {lam : Addr} {ol : Obj} (hl : s.heap.get? lam = some ol) (hc : ol.cls = .type "function")
    (h : codeAny (model prog w) A₀ (.builtin "re.Pattern.sub.loop" ⟨[.ref P, .str ⟨a⟩ u, .ref lam, rawInt 1, rawInt 0, rawInt 0, rawInt 0, rawInt 0, .bool false, .ref s.heap.objs.size, .bool false], []⟩) R { s with heap := s.heap.push (lobj #[] 0) }) :
    wpAny (model prog w) A (Builtin.«re.Pattern.sub» ⟨[.ref P, .ref lam, .str ⟨a⟩ u], []⟩) (fun fin s' => match fin with | .done f => R (.ok f) s' | .again c' => c'.quiet = true ∧ codeAny (model prog w) A₀ c' R s') E s := by
  obtain ⟨hh, g, d, tk, os⟩ := s
  have hT : (⟨hh, g, d, tk, os⟩ : Shared).TypeIs (.ref lam) "function" := ⟨ol, hl, hc⟩
  obtain ⟨cv, f1⟩ := fn_call
  have f2 := zc6
  unfold Builtin.«re.Pattern.sub» reSubstitute
  repeat (any_goals (first | assumption | ((with_reducible show wpAny _ _ (reWholeTarget _ _) _ _ _); refine zgB hp ?_) | wp_step))
  exact ⟨plainId_quiet zcA _, h⟩
end
end Mine
end MpZ4x
section
open PySem PySem.Builtin.Str PySem.W PySem.Calls PyProof.Rows
namespace Mine
noncomputable def TabXF (c Pt : Addr) (qs : List (Pos × PySem.Str)) (F : AP) (h : Heap) : Prop :=
  F c ∧ CodeHd h c Pt ∧ ∃ ps, h.get? Pt = some (tabObj ps) ∧ TriplesOk ps.toList ∧ ∀ pos q, (pos, q) ∈ qs → ∀ cv, codeAmong pos ps.toList = some cv → ∃ c', cv = .ref c' ∧ F c' ∧ h.CodeRec (.ref c') q
theorem TabXF.mono {c Pt : Addr} {qs : List (Pos × PySem.Str)} {F F' : AP} {h h' : Heap} (x : TabXF c Pt qs F h) (hF : ∀ a, F a → F' a) (hk : ∀ a o, F a ∨ a = Pt → h.get? a = some o → h'.get? a = some o) : TabXF c Pt qs F' h' := by
  obtain ⟨fc, ⟨o, vs, file, tf, flags, tg, inF, text, tt, e, r⟩, ps, g, ht, hq⟩ := x
  refine ⟨hF _ fc, ⟨o, vs, file, tf, flags, tg, inF, text, tt, hk _ _ (.inl fc) e, r⟩, ps, hk _ _ (.inr rfl) g, ht, fun pos q hm cv hc => ?_⟩
  obtain ⟨c', e', f', rec⟩ := hq pos q hm cv hc
  exact ⟨c', e', hF _ f', rec.at fun o e => hk _ o (.inl f') e⟩
theorem zcl {pos p2 : Pos} {c : Value} : ∀ {l : List Value}, TriplesOk l → (pos.line ≠ p2.line ∨ pos.col ≠ p2.col) → codeAmong pos (l ++ [rawInt p2.line, rawInt p2.col, c]) = codeAmong pos l
  | l, h, hne => by
    fun_induction TriplesOk l with
    | case1 =>
      simp only [List.nil_append, codeAmong, rawInt]
      rw [if_neg]
      intro hh
      simp only [Bool.and_eq_true, beq_iff_eq] at hh
      omega
    | case2 a t b u x rest ih =>
      simp only [List.cons_append, codeAmong]
      split
      · rfl
      · exact ih h
    | case3 l h1 h2 => exact h.elim
set_option genInjectivity false in
structure LamG (cx : XCx) where
  c : Addr
  Pt : Addr
  qs : List (Pos × PySem.Str)
  xget : ∀ F h, cx.XF F h → TabXF c Pt qs F h
  xset : ∀ F F' h h', cx.XF F h → (∀ a, F a → F' a) → (∀ a o, F a ∨ (cx.X a ∧ a ≠ Pt) → h.get? a = some o → h'.get? a = some o) → TabXF c Pt qs F' h' → cx.XF F' h'
  xp : cx.X Pt
  x0 : ∀ a o, cx.h0.get? a = some o → ¬ cx.X a
  apart : qs.Pairwise fun a b => a.1.line ≠ b.1.line ∨ a.1.col ≠ b.1.col
  blt : cx.h0.BuiltinsAt cx.mg Pt
section
variable {cx : XCx} {ε : Sc}
theorem zf6 {qs : List (Pos × PySem.Str)} (ap : qs.Pairwise fun a b => a.1.line ≠ b.1.line ∨ a.1.col ≠ b.1.col) {p1 p2 : Pos} {q1 q2 : PySem.Str} (h1 : (p1, q1) ∈ qs) (h2 : (p2, q2) ∈ qs) : (p1 = p2 ∧ q1 = q2) ∨ p1.line ≠ p2.line ∨ p1.col ≠ p2.col := by
  induction qs with
  | nil => cases h1
  | cons x r ih =>
    obtain ⟨a1, a2⟩ := List.pairwise_cons.mp ap
    rcases List.mem_cons.mp h1 with e1 | h1
    · rcases List.mem_cons.mp h2 with e2 | h2
      · rw [← e1] at e2; cases e2; exact .inl ⟨rfl, rfl⟩
      · have := a1 _ h2; rw [← e1] at this; exact .inr this
    · rcases List.mem_cons.mp h2 with e2 | h2
      · have := a1 _ h1; rw [← e2] at this; exact .inr (this.imp Ne.symm Ne.symm)
      · exact ih a2 h1 h2
theorem zjZ (G : LamG cx) {n cf A env F s ρ ad m cm} (H : Here cx ε n cf A env F s ρ ad m cm) {qual : PySem.Str} (hcode : ε.code = some (G.c, qual)) {params : Arguments} {body : Expr} {scope : Scope} {pos : Pos} (hdef : defaultsOf params env = ([], []))
    (hq : (pos, qual ++ "<lambda>") ∈ G.qs) (hcl : closureFor scope env = pure []) {Q E : VP}
    (hQ : ∀ F' s' lam c' ctv, Step cx F s F' s' → s.heap.get? lam = none → ¬ F' lam → s'.heap.get? lam = some (kla_obj "<lambda>" (qual ++ "<lambda>") params body scope [] ((cx.mg "__name__").getD .none) c' ctv) → F' c' → s'.heap.CodeRec (.ref c') (qual ++ "<lambda>") → Q (.ref lam) s') :
    wpAny (model cx.prog cx.w) A (eval (.Lambda params body scope pos) env) Q E s := by
  obtain ⟨hc, hqual⟩ := H.env.code _ _ hcode
  refine kla_eval hdef ?_
  rw [hqual]
  obtain ⟨fc, hd, ps, g, ht, hqs⟩ := G.xget _ _ H.wd.xi
  have hg := H.wd.glob H.ok
  have nP : ∀ {a o}, cx.h0.get? a = some o → a ≠ G.Pt → s.heap.get? a = some o := fun e _ => H.wd.base _ _ e (G.x0 _ _ e)
  have hgP : mainGlobals ≠ G.Pt := fun e => H.ok.gx (e ▸ G.xp)
  have hblt : s.heap.BuiltinsAt cx.mg G.Pt := by
    obtain ⟨bm, o, b1, b2, b3, b4, b5, r⟩ := G.blt
    exact ⟨bm, o, b1, b2, b3, b4, nP b5 b4, r⟩
  cases hca : codeAmong pos ps.toList with
  | none =>
    refine kla_makeFunction hcl H.env.glob hg hc hd g ht hca hgP hblt fun c' ctv h' tk hx hge hlt hrec htb => ?_
    have hXP : cx.X G.Pt := G.xp
    have fP : ¬ F G.Pt := fun h => H.wd.nx _ h hXP
    have keep : ∀ a o, s.heap.get? a = some o → ¬ cx.X a → h'.get? a = some o := fun a o e nx => hx a o (fun e' => nx (e' ▸ G.xp)) e
    have frc : s.heap.get? c' = none := by
      cases e : s.heap.get? c' with
      | none => rfl
      | some o => exact absurd (Heap.lt_size e) (Nat.not_lt.mpr hge)
    have ndC : ¬ cx.X c' := H.wd.newNotX frc
    obtain ⟨c2, oc, vs, t, e2, goc, r⟩ := hrec
    cases e2
    let h3 : Heap := h'.push (kla_obj "<lambda>" (qual ++ "<lambda>") params body scope [] ((cx.mg "__name__").getD .none) c' ctv)
    have up : ∀ a o, h'.get? a = some o → h3.get? a = some o := fun a o e => Heap.get?_push_of_some _ e
    have frl : s.heap.get? h'.objs.size = none := by
      cases e : s.heap.get? h'.objs.size with
      | none => rfl
      | some o => exact absurd (Nat.lt_of_lt_of_le (Heap.lt_size e) (Nat.le_trans hge (Nat.le_of_lt hlt))) (Nat.lt_irrefl _)
    have rec3 : h3.CodeRec (.ref c') (qual ++ "<lambda>") := ⟨c', oc, vs, t, rfl, up _ _ goc, r⟩
    have st : Step cx F s (fun a => F a ∨ a = c') { s with heap := h3, toks := tk } := by
      refine ⟨fun _ h => .inl h, fun a h => h.imp (fun h => h) (fun (e : a = c') => by rw [e]; exact frc), fun a o e nx => up _ _ (keep a o e nx), rfl, ⟨fun a o e nx => up _ _ (keep a o (H.wd.base a o e nx) nx), ?_, H.wd.gens, fun a o e nx => .inl (H.wd.f0 a o e nx), fun a h => ?_, fun a h => h.elim (H.wd.nx a) (fun (e : a = c') => by rw [e]; exact ndC), fun a h => ?_⟩⟩
      · refine G.xset _ _ _ _ H.wd.xi (fun _ h => .inl h) (fun a o h e => up _ _ (hx a o (h.elim (fun f e' => fP (e' ▸ f)) (·.2)) e)) ⟨.inl fc, ?_, _, up _ _ htb, ?_, fun p q hm cv hcv => ?_⟩
        · obtain ⟨o, vs, file, tf, flags, tg, inF, text, tt, e, r⟩ := hd
          exact ⟨o, vs, file, tf, flags, tg, inF, text, tt, up _ _ (keep _ _ e (H.wd.nx _ fc)), r⟩
        · have := TriplesOk_snoc pos.line pos.col (.ref c') ps.toList ht
          simpa using this
        · have ea : (ps ++ #[rawInt pos.line, rawInt pos.col, .ref c']).toList = ps.toList ++ [rawInt pos.line, rawInt pos.col, .ref c'] := by simp
          rw [ea] at hcv
          rcases zf6 G.apart hm hq with ⟨rfl, rfl⟩ | hne
          · rw [codeAmong_snoc _ ht hca] at hcv
            cases hcv
            exact ⟨c', rfl, .inr rfl, rec3⟩
          · rw [zcl ht hne] at hcv
            obtain ⟨c4, e4, f4, r4⟩ := hqs p q hm cv hcv
            exact ⟨c4, e4, .inl f4, r4.at fun o e => up _ _ (keep _ _ e (H.wd.nx _ f4))⟩
      · rcases h with h | h
        · obtain ⟨o, e⟩ := H.wd.lt a h
          exact ⟨o, up _ _ (keep a o e (H.wd.nx a h))⟩
        · subst h; exact ⟨oc, up _ _ goc⟩
      · by_cases ea : a = G.Pt
        · rw [ea]; exact ⟨_, up _ _ htb⟩
        · obtain ⟨o, e⟩ := H.wd.xex a h
          exact ⟨o, up _ _ (hx a o ea e)⟩
    refine hQ _ _ _ c' ctv st frl (fun h => ?_) (Heap.get?_push_size _ rfl) (.inr rfl) rec3
    rcases h with h | h
    · obtain ⟨o, e⟩ := H.wd.lt _ h
      rw [frl] at e; cases e
    · rw [← h] at hlt; exact absurd hlt (Nat.lt_irrefl _)
  | some cv =>
    obtain ⟨c', rfl, fc', rec⟩ := hqs pos _ hq cv hca
    refine kla_makeFunctionHit hcl H.env.glob hg hc hd g ht hca hblt fun ctv h' tk hk hsz => ?_
    have up : ∀ a o, s.heap.get? a = some o → (h'.push (kla_obj "<lambda>" (qual ++ "<lambda>") params body scope [] ((cx.mg "__name__").getD .none) c' ctv)).get? a = some o := fun a o e => Heap.get?_push_of_some _ (hk a o e)
    have frl : s.heap.get? h'.objs.size = none := by
      cases e : s.heap.get? h'.objs.size with
      | none => rfl
      | some o => exact absurd (Nat.lt_of_lt_of_le (Heap.lt_size e) hsz) (Nat.lt_irrefl _)
    refine hQ F _ _ c' ctv (Step.grown H.ok H.wd tk up) frl (H.wd.newNotF frl) (Heap.get?_push_size _ rfl) fc' (rec.at fun o e => up _ _ e)
end
section
variable {cx : XCx} {A : Around} {E : VP} {s : Shared} {Pa : Addr} {a : Array Nat} {u : Tok}
noncomputable def lamBody (k1 k2 k3 : Nat) (p1 p2 p3 p4 p5 p6 p7 p8 : Pos) : Expr :=
  .BinOp (.Constant (.str "\\") k1 p1) .Add (.BoolOp .Or [.Call (.Attribute (.Name "_m" p2) "group" p3) [.Constant (.int 1) k2 p4] [] p5, .Constant (.str "") k3 p6] p7) p8
end
noncomputable def lamParams (p : Pos) : Arguments := { posonlyargs := [], args := [{ arg := "_m", annotation := none, pos := p }], vararg := none, kwonlyargs := [], kw_defaults := [], kwarg := none, defaults := [] }
noncomputable def lamScope : Scope := { kind := .function, names := [("_m", .local)], isGenerator := false, isCoroutine := false }
section
variable {cx : XCx} {A : Around} {E : VP} {s : Shared} {Pa : Addr} {a : Array Nat} {u : Tok}
end
end Mine
end
section MpZ8x
open PySem PySem.Builtin.Str PySem.W PySem.Calls PyProof.Rows
namespace Mine
open PySem.Builtin PySem.Builtin.Re
noncomputable def failedB (m : Sre.M) : Bool := match m.outcome with | some .failed => true | _ => false
theorem zhJ {m : Sre.M} (h : failedB m = true) : m.outcome = some .failed := by
  unfold failedB at h
  split at h
  · assumption
  · cases h
theorem zjQ : (noHit.all fun a => failedB ((Sre.forSearch reCode a.toArray 1 0 a.toArray.size false).runFor (4 * (0 + 1)))) = true := by decide +kernel
section
variable {prog : Program} {w : World} {A : Around} {s : Shared}
theorem ziG {args : Args} {R : Result → Shared → Prop}
    (h : wpAny (model prog w) A.in1 (Builtin.«re.Pattern.sub.loop» args) (fun fin s' => match fin with | .done f => R (.ok f) s' | .again c' => c'.quiet = true ∧ codeAny (model prog w) A c' R s') (fun e s' => R (.error e) s') s) :
    codeAny (model prog w) A (.builtin "re.Pattern.sub.loop" args) R s :=
  codeAny_builtin zek (by rw [Around.under_plainId zcA _]; exact h)
theorem ziC {P C : Addr} {codes : Array Value} {a : Array Nat} {u : Tok} {lam : Addr} :
    MeetsIn prog w (Builtin.«re.Pattern.sub» ⟨[.ref P, .ref lam, .str ⟨a⟩ u], []⟩) (fun A R s => (PatAt s.heap P C codes ∧ ∃ ol, s.heap.get? lam = some ol ∧ ol.cls = .type "function") ∧
      codeAny (model prog w) A (.builtin "re.Pattern.sub.loop" ⟨[.ref P, .str ⟨a⟩ u, .ref lam, rawInt 1, rawInt 0, rawInt 0, rawInt 0, rawInt 0, .bool false, .ref s.heap.objs.size, .bool false], []⟩) R { s with heap := s.heap.push (lobj #[] 0) }) :=
  fun A R s hs => by
    obtain ⟨⟨hp, ol, hl, hc⟩, h⟩ := hs
    exact zh3 (A := A.in1) (A₀ := A) hp hl hc h
theorem zjr {P C : Addr} {codes : Array Value} {a : List Nat} {u : Tok} (ha : noHit.contains a = true) (hp : PatAt s.heap P C codes) {lam : Addr} {ol : Obj} (hl : s.heap.get? lam = some ol) (hc : ol.cls = .type "function") {Q E : VP}
    (h : ∀ h' tk t, (∀ b o, s.heap.get? b = some o → h'.get? b = some o) → Q (.str ⟨a.toArray⟩ t) { s with heap := h', toks := tk }) :
    wpAny (model prog w) A (call (.builtin "re.Pattern.sub") [.ref P, .ref lam, .str ⟨a.toArray⟩ u]) Q E s := by
  have hT : s.TypeIs (.ref P) "re.Pattern" := by
    obtain ⟨x, t, u, v, w, y, e, _⟩ := hp.pat
    exact ⟨_, e, rfl⟩
  have hm : a ∈ noHit := by simpa using ha
  have hf := zhJ (List.all_eq_true.mp zjQ a hm)
  have hlen : a.length ≤ 10 := by
    have : (noHit.all fun a => decide (a.length ≤ 10)) = true := by decide
    simpa using List.all_eq_true.mp this a hm
  refine call_meetsIn zdk hT ze9 (zem _ _ _) ziC ⟨⟨hp, ol, hl, hc⟩, ziG ?_⟩
  have hk : ∀ b o, s.heap.get? b = some o → (s.heap.push (lobj #[] 0)).get? b = some o := fun b o e => Heap.get?_push_of_some _ e
  have hnew : (s.heap.push (lobj #[] 0)).get? s.heap.objs.size = some (lobj (strValues []).toArray 0) := Heap.get?_push_size _ rfl
  refine ziF (n := 0) (done := 0) (start := 0) (ps := []) (kk := 0) (res := ⟨a.toArray⟩) (hp.keeps hk) hnew ⟨0, by decide, hf⟩ (by simp) (by rw [List.size_toArray]; omega) (by simp) ?_ fun h' tk t sb => ?_
  · cases a with
    | nil => rfl
    | cons c r =>
      rw [if_pos (by simp)]
      have e : (c :: r).toArray.extract 0 (c :: r).toArray.size = (c :: r).toArray := by simp
      rw [e]
      unfold Txt.join
      have := zdf [] [c :: r]
      simpa [joinL, Str.empty] using this
  · refine h h' tk t fun b o e => (sb.2 b (Nat.ne_of_lt (Heap.lt_size e))).trans (hk b o e)
end
end Mine
end MpZ8x
section MpZ9x
open PySem PySem.Builtin.Str PySem.W PySem.Calls PyProof.Rows
namespace Mine
open PySem.Builtin PySem.Builtin.Re
section
variable {cx : XCx} {A : Around} {s : Shared}
end
end Mine
end MpZ9x
section
open PySem PySem.Builtin.Str PySem.W PySem.Calls PyProof.Rows
namespace Mine
set_option genInjectivity false in
structure PatG (cx : XCx) where
  P : Addr
  C : Addr
  codes : Array Value
  nP : ¬ cx.X P
  nC : ¬ cx.X C
  at0 : PatAt cx.h0 P C codes
theorem PatG.at {cx : XCx} (G : PatG cx) {F : AP} {s : Shared} (w : Wd cx F s) : PatAt s.heap G.P G.C G.codes := by
  obtain ⟨⟨a, t, u, v, w', y, e, r⟩, ⟨n, ec⟩, is⟩ := G.at0
  exact ⟨⟨a, t, u, v, w', y, w.base _ _ e G.nP, r⟩, ⟨n, w.base _ _ ec G.nC⟩, is⟩
section
variable {cx : XCx} {ε : Sc}
theorem zfx (G : LamG cx) (PG : PatG cx) {x : PySem.Str} {p apos pos lp p0 : Pos} {e : Expr} {y : X} {qual : PySem.Str} {k1 k2 k3 : Nat} {p1 p2 p3 p4 p5 p6 p7 p8 : Pos} (hk : ε.kinds.lookup x = some .globalImplicit) (hv : cx.mg x = some (.ref PG.P)) (hd : (x == ("__debug__" : PySem.Str)) = false)
    (hcode : ε.code = some (G.c, qual)) (hq : (lp, qual ++ "<lambda>") ∈ G.qs) (hl : (apos.endLine == pos.line) = true) (hpl : (p3.endLine == p5.line) = true) (hst : starred e = false) (h : Sound cx ε e y) :
    Sound cx ε (.Call (.Attribute (.Name x p) "sub" apos) [.Lambda (lamParams p0) (lamBody k1 k2 k3 p1 p2 p3 p4 p5 p6 p7 p8) lamScope lp, e] [] pos) (.op .resub0 (.cons y .nil)) := by
  refine Sound.ofE ?_ fun _ => rfl
  intro n cf A env F s ρ ad m cm H res he Q E hQ
  obtain ⟨rs, e1, e2⟩ := ev_op he
  obtain ⟨r0, rs', e3, e4, rfl⟩ := zax e1
  cases zbX e4
  have hstL : starred (.Lambda (lamParams p0) (lamBody k1 k2 k3 p1 p2 p3 p4 p5 p6 p7 p8) lamScope lp) = false := rfl
  have hany : (backTo pos (starEach [.Lambda (lamParams p0) (lamBody k1 k2 k3 p1 p2 p3 p4 p5 p6 p7 p8) lamScope lp, e] env)).any (·.1) = false := by
    rw [zau hstL, zaH, List.any_cons, zau hst, zaH, List.any_cons]; rfl
  refine zch rfl hl (by simp) hany ?_
  refine zci H hk hv hd ?_
  obtain ⟨px, pt, pu, pv, pw, py, pe, _⟩ := (PG.at H.wd).pat
  refine getMethod_builtin (T := "re.Pattern") ⟨_, pe, rfl⟩ zeg zdk zfj (fun a e => ⟨_, by cases e; exact pe, rfl⟩) ?_
  refine Calls.callWith_builtin hany ?_
  rw [zau hstL, zaH, zau hst, zaH]
  have hcl : closureFor lamScope env = pure [] := closureFor_none (by intro y hy; simp [lamScope] at hy; subst hy; decide)
  refine Calls.evalArgs_plain (Calls.spliced_cons (zjZ G H hcode rfl hq hcl fun F1 s1 lam c' ctv st1 fr1 nf1 g1 fc1 rec1 => ?_))
  have H1 := H.step st1
  refine Calls.spliced_cons (h.ev n cf A env F1 s1 ρ ad m cm H1 r0 e3 _ _ fun v F2 s2 st2 q2 => Calls.spliced_nil ?_)
  show wpAny _ _ (call (.builtin "re.Pattern.sub") [.ref PG.P, .ref lam, v]) _ _ s2
  have nxl : ¬ cx.X lam := H.wd.newNotX fr1
  have g2 := st2.keep _ _ g1 nxl
  have rec2 := rec1.at fun o e => st2.keep _ o e (st1.wd.nx _ fc1)
  simp only [List.map_cons, List.map_nil] at e2; delta opF at e2; dsimp only at e2
  unfold opResub0 at e2
  split at e2
  · rename_i a ea
    have qb := q2.brep
    have ea' : r0.ds = .str a := by simpa using ea
    rw [ea'] at qb
    obtain ⟨t, rfl, pp, z⟩ := qb.str_inv
    have stt := st1.trans st2
    split at e2
    · rename_i hno
      cases e2
      refine zjr hno (PG.at st2.wd) g2 rfl fun h' tk t' hk' => ?_
      exact hQ _ F2 _ (stt.trans (Step.grown H.ok st2.wd tk hk')) (.val (.str t' pp z))
    · cases e2
  · cases e2
end
section
variable {M : Model} {A : Around} {E : VP} {s : Shared}
theorem zj9 {env : Env} {c P : Addr} {ps : Array Value} {pos : Pos} {qual : PySem.Str} {scope : Scope} {Q : VP} (hc : env.code = .ref c) (C : CodeHd s.heap c P) (hP : s.heap.get? P = some (tabObj ps)) (ht : TriplesOk ps.toList)
    (hQ : ∀ code h' tk, Heap.ExtBut P s.heap h' → (h'.get? P = some (tabObj ps) ∨ (codeAmong pos ps.toList = none ∧ ∃ c', code = .ref c' ∧ s.heap.objs.size ≤ c' ∧ h'.CodeRec (.ref c') qual ∧ h'.get? P = some (tabObj (ps ++ #[rawInt pos.line, rawInt pos.col, .ref c'])))) → Q code { s with heap := h', toks := tk }) :
    wpAny M A (genexprCode env pos qual scope) Q E s := by
  cases hca : codeAmong pos ps.toList with
  | some cv =>
    obtain ⟨o, vs, file, tf, flags, tg, inF, text, tt, op, ho, hd, h11, h2, h7, h9, h10, hop, hpd, htr, hne⟩ := id (C.code hP ht)
    unfold genexprCode codeAt
    rw [hc, if_neg (show ¬ ((Value.ref c == Value.none) = true) from Bool.false_ne_true)]
    refine wb (wpAny_fieldsOf ho hd ?_)
    rw [h11]
    refine wb (wpAny_fieldsOf hop hpd ?_)
    rw [hca]
    exact wpAny_pure (hQ cv s.heap s.toks (Heap.ExtBut.refl _ _) (.inl hP))
  | none =>
    obtain ⟨o, vs, file, tf, flags, tg, inF, text, tt, op, ho, hd, h11, h2, h7, h9, h10, hop, hpd, htr, hne⟩ := id (C.code hP ht)
    unfold genexprCode codeAt
    rw [hc, if_neg (show ¬ ((Value.ref c == Value.none) = true) from Bool.false_ne_true)]
    refine wb (wpAny_fieldsOf ho hd ?_)
    rw [h11]
    refine wb (wpAny_fieldsOf hop hpd ?_)
    rw [hca, h2, h7, h9, h10]
    refine wb (wpAny_newCode fun c' P' h' tk hk hc' hP' hcode' hrec' => ?_)
    have hop' := hk _ _ hP
    refine wb (wpAny_updateFieldsOfTheText hop' rfl ?_)
    have hnew : (Obj.mapFields (fun vs => if (codeAmong pos vs.toList).isSome = true then vs else vs ++ #[rawInt pos.line, rawInt pos.col, .ref c']) (tabObj ps)) = tabObj (ps ++ #[rawInt pos.line, rawInt pos.col, .ref c']) := by
      simp [Obj.mapFields, hca]
    have hget := Heap.get?_update_self (h := h') (fun o => Obj.mapFields (fun vs => if (codeAmong pos vs.toList).isSome = true then vs else
      vs ++ #[rawInt pos.line, rawInt pos.col, .ref c']) o) hop' (by rw [hnew]; rfl)
    rw [hnew] at hget
    refine wb (wpAny_fieldsOf hget rfl ?_)
    have hl : (ps ++ #[rawInt pos.line, rawInt pos.col, Value.ref c']).toList = ps.toList ++ [rawInt pos.line, rawInt pos.col, .ref c'] := by simp
    rw [hl, codeAmong_snoc _ ht hca]
    refine wpAny_pure (hQ _ _ _ (fun b o' hb e => ((Heap.SameBut.update ..).extBut b o' hb (hk b o' e))) (.inr ⟨hca, c', rfl, hc', ?_, hget⟩))
    obtain ⟨c2, oc, vs2, t2, e2, goc, r2⟩ := hrec'
    cases e2
    have hcP : c' ≠ P := fun e => by
      have := Heap.lt_size hP
      rw [← e] at this
      exact absurd this (Nat.not_lt.mpr hc')
    exact ⟨c', oc, vs2, t2, rfl, (Heap.SameBut.update ..).extBut _ _ hcP goc, r2⟩
end
section
variable {cx : XCx} {A : Around} {E : VP} {s : Shared}
theorem zfA {a b c : PySem.Str} {t u v : Tok} (hocc : (occurrences a b 0 a.length (a.length + 1)).isEmpty = true) {mc : PySem.Str → Option Value} (n1 : s.heap.Ns cStatics mc) (n2 : mc sharingNotToldKey = none) {Q : VP} (h : Q (.str a t) s) :
    wpAny (model cx.prog cx.w) A (call (.builtin "str.replace") [.str a t, .str b u, .str c v]) Q E s := by
  have e : ((occurrences a b 0 a.length (a.length + 1)).isEmpty || (b.length == 0 && c.length == 0)) = true := by rw [hocc]; rfl
  refine call_givesAt PySem.F.slot_str_replace (typeIs_str _ _ _) PySem.F.entry_str_replace (PySem.F.args_str_replace_3 _ _ _) (gives_str_replace2 _ _ _ t u v fun h => by rw [e] at h; cases h) ⟨mc, n1, n2⟩ ?_
  rw [if_pos e]
  exact h
noncomputable def repElt (x : PySem.Str) (b1 c1 b2 c2 : PySem.Str) (k1 k2 k3 k4 : Nat) (p1 p2 p3 p4 p5 p6 p7 p8 p9 : Pos) : Expr :=
  .Call (.Attribute (.Call (.Attribute (.Name x p1) "replace" p2) [.Constant (.str b1) k1 p3, .Constant (.str c1) k2 p4] [] p5) "replace" p6) [.Constant (.str b2) k3 p7, .Constant (.str c2) k4 p8] [] p9
theorem zib {o : Expr} {env : Env} {b c a : PySem.Str} {t : Tok} {k1 k2 : Nat} {p2 p3 p4 p5 : Pos} (hb : plainBase o = true) (hl : (p2.endLine == p5.line) = true) (hocc : (occurrences a b 0 a.length (a.length + 1)).isEmpty = true) {mc : PySem.Str → Option Value} (n2 : mc sharingNotToldKey = none) {Q : VP}
    (h : wpAny (model cx.prog cx.w) A (eval o env) (fun v s₁ => v = .str a t ∧ s₁.heap.Ns cStatics mc ∧ ∀ k, Q (.str a t) { s₁ with toks := k }) E s) (hz : b.length ≤ 10 ∧ c.length ≤ 10) :
    wpAny (model cx.prog cx.w) A (eval (.Call (.Attribute o "replace" p2) [.Constant (.str b) k1 p3, .Constant (.str c) k2 p4] [] p5) env) Q E s := by
  refine zch hb hl (by simp) rfl (wpAny_mono h (fun v s₁ h₁ => ?_) fun _ _ e => e)
  obtain ⟨rfl, n1, hQ⟩ := h₁
  refine GM.replace ?_
  refine Calls.callWith_builtin rfl (Calls.evalArgs_plain (Calls.spliced_cons (Calls.Constant_str (k := k1) (pos := p3) (Calls.spliced_cons (Calls.Constant_str (k := k2) (pos := p4) (Calls.spliced_nil ?_))))))
  show wpAny _ _ (call (.builtin "str.replace") [.str a t, .str b _, .str c _]) Q E { s₁ with toks := s₁.toks + 1 + 1 }
  exact zfA (cx := cx) (s := { s₁ with toks := s₁.toks + 1 + 1 }) hocc n1 n2 (hQ _)
end
section
variable {cx : XCx} {A : Around} {E : VP} {s : Shared}
theorem rep_elt {env : Env} {x b1 c1 b2 c2 a : PySem.Str} {t : Tok} {k1 k2 k3 k4 : Nat} {p1 p2 p3 p4 p5 p6 p7 p8 p9 : Pos} (hl1 : (p2.endLine == p5.line) = true) (hl2 : (p6.endLine == p9.line) = true) (ho1 : (occurrences a b1 0 a.length (a.length + 1)).isEmpty = true) (ho2 : (occurrences a b2 0 a.length (a.length + 1)).isEmpty = true)
    {mc : PySem.Str → Option Value} (n1 : s.heap.Ns cStatics mc) (n2 : mc sharingNotToldKey = none) (hk : env.scope.kind = .function) (hl : env.kindOf x = some .local) {m : PySem.Str → Option Value} (hn : s.heap.Ns env.locals m) (hm : m x = some (.str a t)) (hd : (x == ("__debug__" : PySem.Str)) = false)
    (hz : b1.length ≤ 10 ∧ c1.length ≤ 10) (hz2 : b2.length ≤ 10 ∧ c2.length ≤ 10) {Q : VP} (h : ∀ k, Q (.str a t) { s with toks := k }) :
    wpAny (model cx.prog cx.w) A (eval (repElt x b1 c1 b2 c2 k1 k2 k3 k4 p1 p2 p3 p4 p5 p6 p7 p8 p9) env) Q E s := by
  unfold repElt
  refine zib rfl hl2 ho2 n2 (t := t) ?_ hz2
  refine zib rfl hl1 ho1 n2 (t := t) ?_ hz
  refine wpAny_Name (wpAny_loadName_local hk hl hn hm ?_) hd
  exact ⟨rfl, n1, fun k => ⟨rfl, n1, fun k' => h k'⟩⟩
end
noncomputable def repX (i : Nat) (b1 c1 b2 c2 : List Nat) : X :=
  .op .replace (.cons (.op .replace (.cons (.var i) (.cons (.const (.str b1)) (.cons (.const (.str c1)) .nil)))) (.cons (.const (.str b2)) (.cons (.const (.str c2)) .nil)))
noncomputable def noOcc (a b : List Nat) : Bool := (occurrences ⟨a.toArray⟩ ⟨b.toArray⟩ 0 a.length (a.length + 1)).isEmpty
theorem zcY {d : D} {b c : List Nat} {r : R} (h : opF .replace [d, .str b, .str c] = some r) : ∃ a, d = .str a ∧ noOcc a b = true ∧ r = .val (.str a) := by
  obtain ⟨a, b', c', e, h⟩ := zeN (show opReplace [d, .str b, .str c] = some r from h)
  cases e
  obtain ⟨ho, rfl⟩ := zcb h
  exact ⟨a, rfl, ho, rfl⟩
theorem zjB {cf : CfT} {i : Nat} {b1 c1 b2 c2 : List Nat} {ρ : List Slot} {d : D} {r : R} (h : ev cf (repX i b1 c1 b2 c2) (ρ.set i (.val d)) = some [r]) : ∃ a, d = .str a ∧ noOcc a b1 = true ∧ noOcc a b2 = true ∧ r = .val (.str a) := by
  unfold repX at h
  obtain ⟨rs, e1, e2⟩ := ev_op h
  obtain ⟨r0, rs0, e3, e4, rfl⟩ := zax e1
  obtain ⟨r1, rs1, e5, e6, rfl⟩ := zax e4
  obtain ⟨r2, rs2, e7, e8, rfl⟩ := zax e6
  cases zbX e8
  obtain ⟨rt, f1, f2⟩ := ev_op e3
  obtain ⟨q0, qs0, g3, g4, rfl⟩ := zax f1
  obtain ⟨q1, qs1, g5, g6, rfl⟩ := zax g4
  obtain ⟨q2, qs2, g7, g8, rfl⟩ := zax g6
  cases zbX g8
  have cst : ∀ {l : List Nat} {ρ : List Slot} {r : R}, ev cf (.const (.str l)) ρ = some [r] → r = .val (.str l) := fun h => by replace h := (zam _).symm.trans h; cases h; rfl
  rw [cst e5, cst e7] at e2
  rw [cst g5, cst g7] at f2
  obtain ⟨a, ha, ho1, hr0⟩ := zcY (d := q0.ds) f2
  subst hr0
  obtain ⟨a2, ha2, ho2, hr⟩ := zcY (d := .str a) e2
  have : a = a2 := by simpa [R.ds] using ha2
  subst this
  refine ⟨a, ?_, ho1, ho2, hr⟩
  replace g3 := (zaX _).symm.trans g3
  rw [List.getElem?_set] at g3
  simp only [if_true] at g3
  split at g3
  · rename_i d' e
    split at e <;> cases e
    cases g3
    exact ha
  · rename_i l e
    split at e <;> cases e
  · cases g3
section
variable {cx : XCx} {ε : Sc}
theorem zhi (G : LamG cx) {F : AP} {s : Shared} (ok : CxOk cx) (w : Wd cx F s) {ps : Array Value} {gpos : Pos} {code : Value} {qual : PySem.Str} {h' : Heap} (tk : Nat) (g : s.heap.get? G.Pt = some (tabObj ps)) (hap : ∀ p q, (p, q) ∈ G.qs → p.line ≠ gpos.line ∨ p.col ≠ gpos.col)
    (hx : Heap.ExtBut G.Pt s.heap h') (alt : h'.get? G.Pt = some (tabObj ps) ∨ (codeAmong gpos ps.toList = none ∧ ∃ c', code = .ref c' ∧ s.heap.objs.size ≤ c' ∧ h'.CodeRec (.ref c') qual ∧ h'.get? G.Pt = some (tabObj (ps ++ #[rawInt gpos.line, rawInt gpos.col, .ref c'])))) :
    Step cx F s F { s with heap := h', toks := tk } := by
  obtain ⟨fc, hd, ps0, g0, ht, hqs⟩ := G.xget _ _ w.xi
  rw [g] at g0
  have e0 : ps = ps0 := by cases g0; rfl
  subst e0
  have keep : ∀ a o, s.heap.get? a = some o → ¬ cx.X a → h'.get? a = some o := fun a o e nx => hx a o (fun e' => nx (e' ▸ G.xp)) e
  have hxi : TabXF G.c G.Pt G.qs F h' := by
    have hd' : CodeHd h' G.c G.Pt := by
      obtain ⟨o, vs, file, tf, flags, tg, inF, text, tt, e, r⟩ := hd
      exact ⟨o, vs, file, tf, flags, tg, inF, text, tt, keep _ _ e (w.nx _ fc), r⟩
    rcases alt with h | ⟨hn, c', rfl, hc', hrec, h⟩
    · exact ⟨fc, hd', ps, h, ht, fun p q hm cv hcv => let ⟨c4, e4, f4, r4⟩ := hqs p q hm cv hcv; ⟨c4, e4, f4, r4.at fun o e => keep _ _ e (w.nx _ f4)⟩⟩
    · have ea : (ps ++ #[rawInt gpos.line, rawInt gpos.col, .ref c']).toList = ps.toList ++ [rawInt gpos.line, rawInt gpos.col, .ref c'] := by simp
      refine ⟨fc, hd', _, h, by rw [ea]; exact TriplesOk_snoc _ _ _ _ ht, fun p q hm cv hcv => ?_⟩
      rw [ea, zcl ht (hap p q hm)] at hcv
      obtain ⟨c4, e4, f4, r4⟩ := hqs p q hm cv hcv
      exact ⟨c4, e4, f4, r4.at fun o e => keep _ _ e (w.nx _ f4)⟩
  refine ⟨fun _ h => h, fun _ h => .inl h, keep, rfl, ⟨fun a o e nx => keep a o (w.base a o e nx) nx, G.xset _ _ _ _ w.xi (fun _ h => h) (fun a o h e => hx a o (h.elim (fun f e' => w.nx a f (e' ▸ G.xp)) (·.2)) e) hxi, w.gens, w.f0, fun a h => ?_, w.nx, fun a h => ?_⟩⟩
  · obtain ⟨o, e⟩ := w.lt a h
    exact ⟨o, keep a o e (w.nx a h)⟩
  · by_cases ea : a = G.Pt
    · rw [ea]
      rcases alt with h | ⟨_, _, _, _, _, h⟩ <;> exact ⟨_, h⟩
    · obtain ⟨o, e⟩ := w.xex a h
      exact ⟨o, hx a o ea e⟩
end
end Mine
end
section

namespace Mine
theorem e1_2 {α0 : Sort _} {P0 P1 : α0 → Prop} {C : Prop} (h : ∃ x0, P0 x0 ∧ P1 x0) (k : ∀ x0, P0 x0 → P1 x0 → C) : C := by
  obtain ⟨x0, p0, p1⟩ := h
  exact k x0 p0 p1
theorem e2_3 {α0 : Sort _} {α1 : Sort _} {P0 P1 P2 : α0 → α1 → Prop} {C : Prop} (h : ∃ x0 x1, P0 x0 x1 ∧ P1 x0 x1 ∧ P2 x0 x1) (k : ∀ x0 x1, P0 x0 x1 → P1 x0 x1 → P2 x0 x1 → C) : C := by
  obtain ⟨x0, x1, p0, p1, p2⟩ := h
  exact k x0 x1 p0 p1 p2
theorem i8_8 {α0 : Sort _} {α1 : Sort _} {α2 : Sort _} {α3 : Sort _} {α4 : Sort _} {α5 : Sort _} {α6 : Sort _} {α7 : Sort _} {P0 P1 P2 P3 P4 P5 P6 P7 : α0 → α1 → α2 → α3 → α4 → α5 → α6 → α7 → Prop} (x0 : α0) (x1 : α1) (x2 : α2) (x3 : α3) (x4 : α4) (x5 : α5) (x6 : α6) (x7 : α7) (p0 : P0 x0 x1 x2 x3 x4 x5 x6 x7) (p1 : P1 x0 x1 x2 x3 x4 x5 x6 x7) (p2 : P2 x0 x1 x2 x3 x4 x5 x6 x7) (p3 : P3 x0 x1 x2 x3 x4 x5 x6 x7) (p4 : P4 x0 x1 x2 x3 x4 x5 x6 x7) (p5 : P5 x0 x1 x2 x3 x4 x5 x6 x7) (p6 : P6 x0 x1 x2 x3 x4 x5 x6 x7) (p7 : P7 x0 x1 x2 x3 x4 x5 x6 x7) : ∃ x0 x1 x2 x3 x4 x5 x6 x7, P0 x0 x1 x2 x3 x4 x5 x6 x7 ∧ P1 x0 x1 x2 x3 x4 x5 x6 x7 ∧ P2 x0 x1 x2 x3 x4 x5 x6 x7 ∧ P3 x0 x1 x2 x3 x4 x5 x6 x7 ∧ P4 x0 x1 x2 x3 x4 x5 x6 x7 ∧ P5 x0 x1 x2 x3 x4 x5 x6 x7 ∧ P6 x0 x1 x2 x3 x4 x5 x6 x7 ∧ P7 x0 x1 x2 x3 x4 x5 x6 x7 := ⟨x0, x1, x2, x3, x4, x5, x6, x7, p0, p1, p2, p3, p4, p5, p6, p7⟩
end Mine
end
section
open PySem PySem.Builtin.Str PySem.W PySem.Calls PyProof.Rows
namespace Mine
theorem zgi (n : Nat) : passing (fun _ => true) n 0 = List.range n := by
  unfold passing; simp
theorem zd8 {f : D → Option (Option D)} (hf : ∀ d y, f d = some y → ∃ a, d = .str a ∧ y = some (.str a)) : ∀ {items l : List D}, compGo f items = some l → l = items ∧ ∀ d ∈ items, f d = some (some d)
  | [], l, h => by cases h; exact ⟨rfl, fun _ h => nomatch h⟩
  | d :: r, l, h => by
    unfold compGo at h
    split at h
    · cases h
    · rename_i e
      obtain ⟨a, _, e2⟩ := hf d _ e
      cases e2
    · rename_i y e
      obtain ⟨a, rfl, e2⟩ := hf d _ e
      cases e2
      split at h
      · rename_i ys e3
        cases h
        obtain ⟨rfl, h2⟩ := zd8 hf e3
        refine ⟨rfl, fun d' hd => ?_⟩
        rcases List.mem_cons.mp hd with rfl | hd
        · exact e
        · exact h2 d' hd
      · cases h
theorem zdJ : ∀ {l : List D} {ls : List (List Nat)}, toStrs l = some ls → l = ls.map .str
  | [], ls, e => by cases e; rfl
  | d :: r, ls, e => by
    cases d <;> simp only [toStrs] at e <;> try cases e
    obtain ⟨ls', e', rfl⟩ := Option.map_eq_some_iff.mp e
    rw [List.map_cons, ← zdJ e']
theorem ziK {a : List Nat} {ls : List (List Nat)} (z : a.length ≤ lim) (hz : (joinL a ls).length ≤ lim) : JoinOk ⟨a.toArray⟩ (ls.map fun x => PySem.Str.mk x.toArray) = true := by
  unfold JoinOk tooLong
  rw [ze2, Nat.zero_add, List.map_map]
  simp only [Bool.not_eq_true', decide_eq_false_iff_not]
  rw [sizeLine_eq]
  unfold lim at hz z
  cases ls with
  | nil => simp
  | cons b r =>
    rw [zdq] at hz
    simp only [List.map_cons, List.sum_cons, Function.comp, zbW]
    have e : (List.map ((fun x => x.length + a.length) ∘ fun x => PySem.Str.mk x.toArray) r).sum = (r.map fun x => a.length + x.length).sum := by
      congr 1
      apply List.map_congr_left
      intro x _
      show (PySem.Str.mk x.toArray).length + a.length = _
      rw [zbW, Nat.add_comm]
    rw [e]
    omega
section
variable {cx : XCx} {ε : Sc}
set_option maxHeartbeats 1000000 in
theorem zeQ (G : LamG cx) {sep x b1 c1 b2 c2 : PySem.Str} {lsep lb1 lc1 lb2 lc2 : List Nat} {k1 k2 k3 k4 k5 : Nat} {p1 p2 p3 p4 p5 p6 p7 p8 p9 ps px gpos apos pos : Pos} {scope : Scope} {iter : Expr} {it : X} {i : Nat} {qual : PySem.Str}
    (hsep : constD (.str sep) = some (.str lsep)) (hb1 : b1 = ⟨lb1.toArray⟩) (hb2 : b2 = ⟨lb2.toArray⟩) (hl : (apos.endLine == pos.line) = true) (hl1 : (p2.endLine == p5.line) = true) (hl2 : (p6.endLine == p9.line) = true)
    (hz : b1.length ≤ 10 ∧ c1.length ≤ 10) (hz2 : b2.length ≤ 10 ∧ c2.length ≤ 10) (hcode : ε.code = some (G.c, qual)) (hap : ∀ p q, (p, q) ∈ G.qs → p.line ≠ gpos.line ∨ p.col ≠ gpos.col)
    (hi : SoundI cx ε iter it) (hs : ∀ env x, genFold iter env x = pure x) (hco : scope.isCoroutine = false) (hcell : ∀ y ∈ scope.names, y.2 ≠ .cell) (hfree : ∀ y ∈ scope.names, y.2 ≠ .free) (h0 : scope.names.lookup (".0" : PySem.Str) = some NameKind.local)
    (hx : scope.names.lookup x = some .local) (hkind : scope.kind = .function) (hd : (x == ("__debug__" : PySem.Str)) = false) :
    Sound cx ε (.Call (.Attribute (.Constant (.str sep) k5 ps) "join" apos) [.GeneratorExp (repElt x b1 c1 b2 c2 k1 k2 k3 k4 p1 p2 p3 p4 p5 p6 p7 p8 p9) [⟨.Name x px, iter, [], 0⟩] scope gpos] [] pos)
      (.op .join (.cons (.const (.str lsep)) (.cons (.comp i it (.const (.bool true)) (repX i lb1 lc1 lb2 lc2)) .nil))) := by
  refine Sound.ofE ?_ fun _ => rfl
  intro n cf A env F s ρ ad m cm H res he Q E hQ
  obtain ⟨rs, e1, e2⟩ := ev_op he
  obtain ⟨r0, rs0, e3, e4, rfl⟩ := zax e1
  obtain ⟨r1, rs1, e5, e6, rfl⟩ := zax e4
  cases zbX e6
  refine e2_3 (zgt e5) fun items l f1 f2 q1 => ?_
  subst q1
  have hr0 : r0 = .val (.str lsep) := by replace e3 := (zam _).symm.trans e3; cases e3; rfl
  subst hr0
  have turn : ∀ d y, turnC cf [i] one1 (.const (.bool true)) (repX i lb1 lc1 lb2 lc2) ρ d = some y → ∃ a, d = .str a ∧ y = some (.str a) ∧ noOcc a lb1 = true ∧ noOcc a lb2 = true := by
    intro d y h
    have h' : turnD (some [.val (.bool true)]) (ev cf (repX i lb1 lc1 lb2 lc2) (ρ.set i (.val d))) = some y := h
    unfold turnD truthR at h'
    simp only [R.ds, D.truth] at h'
    split at h'
    · rename_i r er
      obtain ⟨a, h1, h2, h3, h4⟩ := zjB er
      subst h4
      cases h'
      exact ⟨a, h1, rfl, h2, h3⟩
    · cases h'
  have cgs := zd8 (fun d y h => let ⟨a, h1, h2, _⟩ := turn d y h; ⟨a, h1, h2⟩) f2
  have hall := cgs.2
  have cg1 := cgs.1
  subst cg1
  have itemStr : ∀ j d, l[j]? = some d → ∃ a, d = D.str a ∧ noOcc a lb1 = true ∧ noOcc a lb2 = true := fun j d hj => by
    obtain ⟨a, h1, _, h3, h4⟩ := turn d _ (hall d (List.mem_of_getElem? hj))
    exact ⟨a, h1, h3, h4⟩
  have hc := (H.env.code _ _ hcode).1
  have hqual := (H.env.code _ _ hcode).2
  have hstG : starred (.GeneratorExp (repElt x b1 c1 b2 c2 k1 k2 k3 k4 p1 p2 p3 p4 p5 p6 p7 p8 p9) [⟨.Name x px, iter, [], 0⟩] scope gpos) = false := rfl
  have hany : (backTo pos (starEach [.GeneratorExp (repElt x b1 c1 b2 c2 k1 k2 k3 k4 p1 p2 p3 p4 p5 p6 p7 p8 p9) [⟨.Name x px, iter, [], 0⟩] scope gpos] env)).any (·.1) = false := by
    rw [zau hstG, zaH, List.any_cons]; rfl
  refine zch rfl hl (by simp) hany ?_
  refine (zab hsep).ev n cf A env F s ρ ad m cm H _ e3 _ _ fun v F0 s0 st0 q0 => ?_
  have q0 := q0.brep
  obtain ⟨t0, rfl, p0', z0⟩ := BRep.str_inv (l := lsep) q0
  have H0 := H.step st0
  refine GM.join ?_
  refine Calls.callWith_builtin hany ?_
  rw [zau hstG, zaH]
  refine Calls.evalArgs_plain (Calls.spliced_cons ?_)
  have hclos : closureFor scope env = pure [] := closureFor_none hfree
  have hroom : A.depth < recursionLimit := Nat.lt_of_le_of_lt (Nat.le_add_right _ _) (Nat.lt_trans H.bud.dp (by decide))
  refine wpAny_GeneratorExp_walksQD H.bud.hd hco hclos hcell h0 hx hkind hroom ?_ (hs env)
  refine hi n cf A env F0 s0 ρ ad m cm H0 l f1 _ _ fun I F1 s1 fp wr P St J => ?_
  have ok := H.ok
  have w1 := J.st.wd
  refine ⟨w1.lim ok, ?_⟩
  obtain ⟨fc, hhd, tps, gP, htr, _⟩ := G.xget _ _ w1.xi
  rw [hqual]
  refine zj9 hc hhd gP htr fun code h2 tk2 hx2 alt => ?_
  have st2 := zhi G ok w1 tk2 gP hap hx2 alt
  have w2 := st2.wd
  have nP : ∀ {a o}, cx.h0.get? a = some o → a ≠ G.Pt → h2.get? a = some o := fun e _ => w2.base _ _ e (G.x0 _ _ e)
  obtain ⟨bm, ob, b1', b2', b3', b4', b5', b6', b7', b8'⟩ := G.blt
  rw [H.env.glob]
  refine wpAny_builtinsFor (s := { s1 with heap := h2, toks := tk2 }) (w2.glob ok) b1' b2' (nP b5' b4') b6' b7' b8' ?_
  have szX : ∀ {b : Addr}, b ∈ wr → b ≠ G.Pt := fun hb e => by
    obtain ⟨o, eo⟩ := st0.wd.xex G.Pt G.xp
    rw [← e, (J.new _ hb).1] at eo; cases eo
  have fpX : ∀ {b : Addr}, b ∈ fp → b ≠ G.Pt := fun hb e => by
    rcases J.deps _ hb with hb | hb
    · exact szX hb e
    · exact w1.nx _ hb (e ▸ G.xp)
  have hst2 : St 0 h2 := (J.W A H.bud.hd).frame _ _ _ J.s0 fun b hb o e => hx2 b o (fpX hb) e
  have hfp : ∀ b ∈ fp, b < h2.objs.size := fun b hb => by
    rcases J.deps _ hb with hb' | hb'
    · have := J.one _ hb'
      subst this
      obtain ⟨o, T, e, _⟩ := J.ty 0 _ hst2
      exact Heap.lt_size e
    · obtain ⟨o, e⟩ := w2.lt _ hb'
      exact Heap.lt_size e
  have hcs0 : ∀ {s : Shared} {F : AP}, Wd cx F s → ∃ o, s.heap.get? cStatics = some o := fun w => by
    obtain ⟨_, ⟨o, _, _, e, _⟩, _⟩ := w.lim ok
    exact ⟨o, e⟩
  have hcw : cStatics ∉ wr := fun hm => by
    obtain ⟨o, e⟩ := hcs0 st0.wd
    rw [(J.new _ hm).1] at e; cases e
  have item : ∀ i v, P i v → ∃ a t, l[i]? = some (.str a) ∧ v = .str ⟨a.toArray⟩ t ∧ noOcc a lb1 = true ∧ noOcc a lb2 = true ∧ ∀ c ∈ a, c < 0x110000 := fun j v hv => by
    obtain ⟨d, hd1, hd2⟩ := J.item j v hv
    obtain ⟨a, rfl, ho1, ho2⟩ := itemStr j d hd1
    cases hd2 with
    | str t p z => exact ⟨a, t, hd1, rfl, ho1, ho2, p⟩
  refine e1_2 ok.nb fun mc nmc nmk => ?_
  refine i8_8 I fp wr l.length P St (fun _ => true) (fun i y => ∃ a t, l[i]? = some (.str a) ∧ y = .str ⟨a.toArray⟩ t ∧ ∀ c ∈ a, c < 0x110000) rfl J.W hst2 hfp (w2.lim ok) hcw (fun href hhref => ⟨?_, ?_⟩) ?_
  · intro A' E' i v s₂ m₂ hA hD hU hP hn hm hk
    exact wpAny_pure ⟨rfl, ⟨s₂.heap, s₂.toks, rfl, fun _ _ e => e⟩⟩
  · intro A' E' i v s₂ m₂ hA hD hU hP _ hn hm hk
    obtain ⟨a, t, hi, rfl, ho1, ho2, hcs⟩ := item i v hP
    have n1 : s₂.heap.Ns cStatics mc := nmc.at' fun o e => by
      have e2 := w2.base _ o e ok.limx
      exact hk _ (List.mem_range.mpr (Heap.lt_size e2)) hcw o (hhref _ _ e2)
    subst hb1; subst hb2
    refine rep_elt (t := t) (m := m₂) hl1 hl2 ho1 ho2 n1 nmk ?ka ?kb hn hm hd hz hz2 fun k => ?_
    case ka => exact hkind
    case kb => exact hx
    exact ⟨⟨a, t, hi, rfl, hcs⟩, ⟨s₂.heap, k, rfl, fun _ _ e => e⟩⟩
  · intro a h₅ tk gs hgb hag hsz₅ hk₅ W hat
    refine Calls.spliced_nil ?_
    show wpAny _ _ (call (.builtin "str.join") [.str ⟨lsep.toArray⟩ t0, .ref a]) _ _ _
    have e2' : opJoin [.str lsep, .list l] = some res := e2
    unfold opJoin at e2'
    split at e2'
    · rename_i s' l' ee
      cases ee
      split at e2'
      · rename_i ls els
        split at e2' <;> cases e2'
        rename_i hz3
        have hll := zdJ els
        have hn : (passing (fun _ => true) l.length 0) = List.range l.length := zgi _
        refine SC.joinGen W.in4_2 (fun i s' st => st.1.typeIs) hat ?_ List.mem_cons_self (fun j v hv => ?_) (fun s' lt hm hacc => ?_) ?_
        · intro b hb
          show b < h₅.objs.size
          rw [hsz₅]
          have hag' : h2.objs.size < a := hag
          rcases List.mem_cons.mp hb with rfl | hb
          · exact Nat.lt_succ_self _
          · rcases List.mem_cons.mp hb with rfl | hb
            · exact Nat.lt_succ_of_lt hag'
            · exact Nat.lt_succ_of_lt (Nat.lt_trans (List.mem_range.mp hb) hag')
        · obtain ⟨i, _, a, t, _, rfl, _⟩ := hv
          exact ⟨_, _, rfl⟩
        · have hlen : lt.length = l.length := by
            have := hacc.1
            rw [hn, List.length_range] at this
            simpa [strValues] using this
          have at1 : ∀ j (hj : j < lt.length), ∃ a, ls[j]? = some a ∧ lt[j].1 = ⟨a.toArray⟩ ∧ ∀ c ∈ a, c < 0x110000 := fun j hj => by
            obtain ⟨i, hi, a, t, h1, h2, h3⟩ := hacc.2 j (.str lt[j].1 lt[j].2) (by simp [strValues, List.getElem?_eq_getElem hj])
            rw [hn, List.getElem?_range (hlen ▸ hj)] at hi
            cases hi
            injection h2 with h21 _
            rw [hll, List.getElem?_map] at h1
            obtain ⟨a', ha', e'⟩ := Option.map_eq_some_iff.mp h1
            cases e'
            exact ⟨a, ha', h21, h3⟩
          have hlsl : ls.length = l.length := by rw [hll, List.length_map]
          have hlt : lt.map (·.1) = ls.map fun x => PySem.Str.mk x.toArray := by
            apply List.ext_getElem?
            intro j
            by_cases hj : j < lt.length
            · obtain ⟨a, h1, h2, _⟩ := at1 j hj
              rw [List.getElem?_map, List.getElem?_map, h1, List.getElem?_eq_getElem hj]
              simp [h2]
            · rw [List.getElem?_eq_none (by simpa using hj), List.getElem?_eq_none (by rw [List.length_map, hlsl, ← hlen]; exact Nat.le_of_not_lt hj)]
          have chars : ∀ x ∈ ls, ∀ c ∈ x, c < 0x110000 := fun x hx => by
            obtain ⟨j, hj, e⟩ := List.mem_iff_getElem.mp hx
            obtain ⟨a, h1, _, h3⟩ := at1 j (by rw [hlen, ← hlsl]; exact hj)
            rw [List.getElem?_eq_getElem hj] at h1
            cases h1
            rw [← e]; exact h3
          rw [hlt]
          refine ⟨ziK z0 hz3, fun t' k => ?_⟩
          have keep2 : ∀ b o, b ∉ wr → h2.get? b = some o → s'.heap.get? b = some o := fun b o hb e => by
            refine hm.heap b o (fun hmem => ?_) (hk₅ b o e)
            rcases List.mem_cons.mp hmem with rfl | hmem
            · exact absurd (Heap.lt_size e) (Nat.lt_irrefl _)
            · exact hb hmem
          have nF : ∀ b, F1 b → b ∉ wr := fun b h hm => (J.new b hm).2 h
          have nXw : ∀ b, cx.X b → b ∉ wr := fun b h hm => by
            obtain ⟨o, eo⟩ := st0.wd.xex b h
            rw [(J.new b hm).1] at eo; cases eo
          have wd' : Wd cx F1 s' := by
            refine ⟨fun a o e nx => keep2 a o (nF a (w2.f0 a o e nx)) (w2.base a o e nx), ok.xi _ _ _ _ w2.xi (fun _ h => h) (fun a o h e => keep2 a o (h.elim (nF a) (nXw a)) e), ?_, w2.f0, fun a h => let ⟨o, e⟩ := w2.lt a h; ⟨o, keep2 a o (nF a h) e⟩, w2.nx, fun a h => let ⟨o, e⟩ := w2.xex a h; ⟨o, keep2 a o (nXw a h) e⟩⟩
            have g1 : GenOnlyQ s1.gens.size (s1.gens.push gs) s'.gens := hm.gens
            exact g1.bare (PyProof.Rows.AllBare.push (show PyProof.Rows.AllBare s1.gens from w1.gens) hgb)
          have stf : Step cx F0 s0 F1 s' := by
            refine ⟨J.st.sub, J.st.new, fun a o e nx => keep2 a o (fun hm => by rw [(J.new a hm).1] at e; cases e) (hx2 a o (fun e' => nx (e' ▸ G.xp)) (J.st.keep a o e nx)), ?_, wd'⟩
            have o1 : s'.os = s1.os := hm.os
            exact o1.trans J.st.os
          unfold Txt.join
          rw [zdf]
          refine hQ _ F1 _ ((st0.trans stf).toks k) (.val (.str t' (fun c hc => ?_) hz3))
          rcases zfM hc with hc | ⟨x, hx, hc⟩
          · exact p0' c hc
          · exact chars x hx c hc
        · rw [hn, List.length_range]
          have := J.lim
          rw [sizeLine_eq]
          unfold lim at this
          omega
      · cases e2'
    · rename_i hne
      exact (hne _ _ rfl).elim
end
end Mine
end
section
open PySem PySem.Calls PyProof.Rows PySem.Builtin.Str
namespace Mine
section
variable {cx : XCx} {ε : Sc}
theorem zb1 {x : Str} {T : String} {pos : Pos} (hk : ε.kinds.lookup x = some .globalImplicit) (hg : cx.mg x = none) (hn : x ≠ "__name__") (hv : bootBuiltins x = some (.type T)) (hd : (x == ("__debug__" : Str)) = false) : Sound cx ε (.Name x pos) (.const (.ty T)) := by
  refine Sound.ofE ?_ fun _ => rfl
  intro n cf A env F s ρ ad m cm H r hr Q E hQ
  replace hr := (zam _).symm.trans hr
  cases hr
  exact zbQ H hk hg hn hv hd (hQ _ F s (Step.refl H.wd) (.val (.ty T)))
noncomputable abbrev dead : S := .assert (.const (.bool false))
theorem ex_dead {cf : CfT} {ρ : List Slot} : ex cf dead ρ = none := rfl
theorem zbO {sts : List Stmt} : SoundSs cx ε sts dead := by
  intro n cf A env F s ρ ad m cm H ρ' o h
  rw [ex_dead] at h; cases h
theorem zdC {f : PySem.Str → PySem.Str → R} : ∀ d ds r, opStr2 f (d :: ds) = some r → ∃ l, d = .str l := by
  intro d ds r h
  obtain ⟨a, b, e, h⟩ := zcC (show two _ (d :: ds) = some r from h)
  obtain ⟨a, e2, _⟩ := Option.bind_eq_some_iff.mp h
  cases e
  exact ⟨a, zbU e2⟩
theorem zka : ∀ d ds r, opFind4 (d :: ds) = some r → ∃ l, d = .str l := by
  intro d ds r h
  cases d <;> first | exact ⟨_, rfl⟩ | cases h
theorem zgg : ∀ d ds r, opReplace (d :: ds) = some r → ∃ l, d = .str l := by
  intro d ds r h
  obtain ⟨a, b, c, e, _⟩ := zeN h
  cases e
  exact ⟨a, rfl⟩
theorem zj1 : ∀ d ds r, opJoin (d :: ds) = some r → ∃ l, d = .str l := by
  intro d ds r h
  cases d <;> first | exact ⟨_, rfl⟩ | cases h
section
variable {o : Expr} {apos pos : Pos} {es : List Expr} {xo x : X}
theorem m_rfind (hl : (apos.endLine == pos.line) = true) (hb : plainBase o = true) (hn : es.length < 30) (h0 : Sound cx ε o xo) (h : SoundL cx ε es x false) : Sound cx ε (.Call (.Attribute o "rfind" apos) es [] pos) (.op .rfind (.cons xo x)) :=
  zbh hb hl hn PySem.F.slot_str_rfind rfl h0 h (by intro d ds r h; delta opF at h; dsimp only at h; exact zdC d ds r h) zjE
theorem zfI (hl : (apos.endLine == pos.line) = true) (hb : plainBase o = true) (hn : es.length < 30) (h0 : Sound cx ε o xo) (h : SoundL cx ε es x false) : Sound cx ε (.Call (.Attribute o "startswith" apos) es [] pos) (.op .startswith (.cons xo x)) :=
  zbh hb hl hn PySem.F.slot_str_startswith rfl h0 h (by intro d ds r h; delta opF at h; dsimp only at h; exact zdC d ds r h) zeW
theorem zhy (hl : (apos.endLine == pos.line) = true) (hb : plainBase o = true) (hn : es.length < 30) (h0 : Sound cx ε o xo) (h : SoundL cx ε es x false) : Sound cx ε (.Call (.Attribute o "endswith" apos) es [] pos) (.op .endswith (.cons xo x)) :=
  zbh hb hl hn PySem.F.slot_str_endswith rfl h0 h (by intro d ds r h; delta opF at h; dsimp only at h; exact zdC d ds r h) zgk
theorem zjV (hl : (apos.endLine == pos.line) = true) (hb : plainBase o = true) (hn : es.length < 30) (h0 : Sound cx ε o xo) (h : SoundL cx ε es x false) : Sound cx ε (.Call (.Attribute o "rstrip" apos) es [] pos) (.op .rstrip (.cons xo x)) :=
  zbh hb hl hn PySem.F.slot_str_rstrip rfl h0 h (by intro d ds r h; delta opF at h; dsimp only at h; exact zdC d ds r h) zil
theorem m_find (hl : (apos.endLine == pos.line) = true) (hb : plainBase o = true) (hn : es.length < 30) (h0 : Sound cx ε o xo) (h : SoundL cx ε es x false) : Sound cx ε (.Call (.Attribute o "find" apos) es [] pos) (.op .find4 (.cons xo x)) :=
  zbh hb hl hn PySem.F.slot_str_find rfl h0 h (fun d ds r h => zka d ds r h) zjI
theorem ziE (hl : (apos.endLine == pos.line) = true) (hb : plainBase o = true) (hn : es.length < 30) (h0 : Sound cx ε o xo) (h : SoundL cx ε es x false) : Sound cx ε (.Call (.Attribute o "replace" apos) es [] pos) (.op .replace (.cons xo x)) :=
  zbh hb hl hn PySem.F.slot_str_replace rfl h0 h (fun d ds r h => zgg d ds r h) zhu
theorem m_join (hl : (apos.endLine == pos.line) = true) (hb : plainBase o = true) (hn : es.length < 30) (h0 : Sound cx ε o xo) (h : SoundL cx ε es x false) : Sound cx ε (.Call (.Attribute o "join" apos) es [] pos) (.op .join (.cons xo x)) :=
  zbh hb hl hn PySem.F.slot_str_join rfl h0 h (fun d ds r h => zj1 d ds r h) op_join
end
end
noncomputable def nthBody (p : Program) (n : Nat) : List Stmt := match p.main.body[n]? with
  | some (.FunctionDef _ _ b _ _ _ _ _ _ _) => b
  | _ => []
set_option genInjectivity false in
structure GN (cx : XCx) (fs : List (Str × Nat)) (bs : List Str) : Prop where
  f : ∀ x i, (x, i) ∈ fs → cx.mg x = some (.ref (cx.fa i))
  b : ∀ x, x ∈ bs → cx.mg x = none
theorem GN.fi {cx : XCx} {fs : List (Str × Nat)} {bs : List Str} (N : GN cx fs bs) (i : Nat) {x : Str} {a : Nat} (h : fs[i]? = some (x, a)) : cx.mg x = some (.ref (cx.fa a)) := N.f _ _ (List.mem_of_getElem? h)
theorem GN.bi {cx : XCx} {fs : List (Str × Nat)} {bs : List Str} (N : GN cx fs bs) (i : Nat) {x : Str} (h : bs[i]? = some x) : cx.mg x = none := N.b _ (List.mem_of_getElem? h)
theorem nfree {ks : List (Str × NameKind)} {x : Str} {k : NameKind} (h : ks.lookup x = some k) (hk : k ≠ .free := by decide) : ks.lookup x ≠ some .free := by
  rw [h]; intro e; cases e; exact hk rfl
theorem zcF {is : List Nat} (h : is.length = 1 := by rfl) : ∀ d ds, one1 d = some ds → ds.length = is.length := by
  intro d ds e; cases e; exact h.symm
noncomputable def compOKb (ε : Sc) (scope : Scope) (xs : List Str) (is : List Nat) : Bool :=
  (scope.kind == .function) && scope.names.all (fun y => y.2 != .cell) && scope.names.all (fun y => y.2 != .local || scope.names.lookup y.1 == some .local) && xs.all (fun x => scope.names.lookup x == some .local)
    && scope.names.all (fun y => y.2 != .free || ((ε.vars.lookup y.1).isSome && ε.kinds.lookup y.1 != some .local)) && ε.vars.all (fun y => !is.contains y.2) && decide xs.Nodup && decide is.Nodup && decide (xs.length = is.length)
theorem zbT {ε : Sc} {scope : Scope} {xs : List Str} {is : List Nat} (h : compOKb ε scope xs is = true) : CompOK ε scope xs is := by
  unfold compOKb at h
  simp only [Bool.and_eq_true, decide_eq_true_eq, List.all_eq_true, Bool.or_eq_true, bne_iff_ne, beq_iff_eq, Bool.not_eq_true', ne_eq] at h
  obtain ⟨⟨⟨⟨⟨⟨⟨⟨h1, h2⟩, h3⟩, h4⟩, h5⟩, h6⟩, h7⟩, h8⟩, h9⟩ := h
  refine ⟨h1, h2, fun y hy e => (h3 y hy).elim (fun q => absurd e q) id, h4, fun y k hy e => ?_, fun y j hj hm => ?_, h7, h8, h9⟩
  · rcases h5 (y, k) hy with q | ⟨q1, q2⟩
    · exact absurd e q
    · exact ⟨Option.isSome_iff_exists.mp q1, q2⟩
  · have := h6 (y, j) (zbo hj)
    rw [List.contains_iff_mem.mpr hm] at this
    cases this
theorem zkr {x : Str} {p : Pos} : (Expr.Name x p).pos = p := rfl
theorem pos_lc {e : Expr} {g : List Comprehension} {c : Scope} {p : Pos} : (Expr.ListComp e g c p).pos = p := rfl
theorem pos_tu {l : List Expr} {k : Nat} {p : Pos} : (Expr.Tuple l k p).pos = p := rfl
theorem kindOf_ε {env : Env} {ks : List (Str × NameKind)} (h : env.scope.names = ks) (x : Str) : env.kindOf x = ks.lookup x := by unfold Env.kindOf; rw [h]
theorem swapC {ks : List (Str × NameKind)} {elt : Expr} {gens : List Comprehension} {scope : Scope} {pos py : Pos} {y : Str} {line : Nat} (hk : ks.lookup y = some .local) (hp : (py.line == pos.line) = true) (ha : (scope.names.any fun (n, k) => n == y && (k == .local || k == .cell)) = false) :
    ∀ env : Env, env.scope.kind = .function → env.scope.names = ks → swapsWith (.ListComp elt gens scope pos) (some (.Name y py)) line env = pure true := by
  intro env h1 h2
  unfold swapsWith
  have hb : (env.blockKind == .function) = true := by unfold Env.blockKind; rw [h1]; rfl
  simp only [kindOf_ε h2, hk, hb, zkr, pos_lc, hp, ha]
  rfl
theorem zgE {ks : List (Str × NameKind)} {x y : Str} {p p' pos' posv : Pos} {k kv : Nat} {v1 v2 : Expr} (hx : ks.lookup x = some .local) (hy : ks.lookup y = some .local) (hp : (p'.line == p.line) = true)
    (hs1 : starred v1 = false) (hs2 : starred v2 = false) (hd : ([x, y].eraseDups.length != 2) = false) (hf : [v1, v2].all (foldedForSure 8) = false) (hc : [v1, v2].all (constantsAlone 8) = false) :
    ∀ env : Env, env.scope.kind = .function → env.scope.names = ks → swappedStores [.Tuple [.Name x p, .Name y p'] k pos'] (.Tuple [v1, v2] kv posv) env = pure (some [x, y]) := by
  intro env h1 h2
  have hb : (env.blockKind != .function) = false := by unfold Env.blockKind; rw [h1]; rfl
  unfold swappedStores
  have hp0 : (p.line == p.line) = true := beq_self_eq_true _
  have el : ((some NameKind.local : Option NameKind) == some NameKind.local) = true := rfl
  have hst : ∀ v : Expr, starred v = false → (match v with | .Starred .. => true | _ => false) = false := fun v h => by
    cases v <;> first | rfl | cases h
  simp only [List.length_cons, List.length_nil, List.head?_cons, Option.map_some, Option.getD_some, zkr, pos_tu, List.filterMap_cons, List.filterMap_nil, kindOf_ε h2, hx, hy, hp, hp0, el, Bool.and_self, if_true, hb, hf, hc, Bool.or_false]
  simp only [Nat.zero_add, Nat.reduceAdd, hd]
  have h3 : ([v1, v2].any fun x => match x with | .Starred .. => true | _ => false) = false := by
    simp only [List.any_cons, List.any_nil, Bool.or_false, hst v1 hs1, hst v2 hs2]
  exact (if_neg Bool.false_ne_true).trans ((if_neg fun q => Bool.false_ne_true (h3.symm.trans q)).trans rfl)
theorem apart1 {cx : XCx} {G : LamG cx} {p0 : Pos} {q0 : PySem.Str} {g : Pos} (h : G.qs = [(p0, q0)]) (ha : (p0.line != g.line || p0.col != g.col) = true) : ∀ p q, (p, q) ∈ G.qs → p.line ≠ g.line ∨ p.col ≠ g.col := by
  intro p q hm
  rw [h] at hm
  cases List.mem_singleton.mp hm
  simpa using ha
end Mine
end
section
open PySem PySem.Calls PyProof.Rows PySem.Builtin.Str PySem.W
namespace Mine
section
variable {cx : XCx}
theorem len1 {P : List Value → Prop} (h : ∀ a, P [a]) (vs : List Value) (e : vs.length = 1) : P vs := by
  obtain ⟨a, rfl⟩ := List.length_eq_one_iff.mp e
  exact h a
theorem len2 {P : List Value → Prop} (h : ∀ a b, P [a, b]) (vs : List Value) (e : vs.length = 2) : P vs := by
  cases vs with
  | nil => cases e
  | cons a t => exact len1 (P := fun t => P (a :: t)) (h a) t (Nat.succ.inj e)
theorem len3 {P : List Value → Prop} (h : ∀ a b c, P [a, b, c]) (vs : List Value) (e : vs.length = 3) : P vs := by
  cases vs with
  | nil => cases e
  | cons a t => exact len2 (P := fun t => P (a :: t)) (h a) t (Nat.succ.inj e)
theorem len4 {P : List Value → Prop} (h : ∀ a b c d, P [a, b, c, d]) (vs : List Value) (e : vs.length = 4) : P vs := by
  cases vs with
  | nil => cases e
  | cons a t => exact len3 (P := fun t => P (a :: t)) (h a) t (Nat.succ.inj e)
theorem zaQ {fd : FuncData} {fn : Fn} {ps : List Str} (hva : fn.va = false) (h : ∀ vs : List Value, vs.length = fn.np → bindArgs fd ⟨vs, []⟩ = pure (ps.zip vs)) : BindOK cx fd fn ps := by
  intro A F s vs args ds ok w q hb Q E hQ
  unfold boundTo at hb
  rw [hva] at hb
  simp only [Bool.false_eq_true, if_false] at hb
  split at hb <;> cases hb
  rename_i hl
  rw [h vs (q.length.trans hl)]
  exact wpAny_pure (hQ F s vs (Step.refl w) q)
theorem zjf {fd : FuncData} {fn : Fn} {x y : Str} (hva : fn.va = true) (hnp : fn.np = 1) (hbd : ∀ v r, bindArgs fd ⟨v :: r, []⟩ = (do let t ← newTuple r; pure [(x, v), (y, t)])) : BindOK cx fd fn [x, y] := by
  intro A F s vs args ds ok w q hb Q E hQ
  unfold boundTo at hb
  rw [hva, hnp] at hb
  simp only [if_true] at hb
  split at hb <;> cases hb
  rename_i hl
  cases q with
  | nil => simp at hl
  | @cons v vs d ds hv hvs =>
    rw [hbd]
    have hz : vs.length ≤ lim := by
      rw [hvs.length]
      have := hl.2
      rw [List.length_cons] at this
      omega
    refine wb (wpAny_newTuple ?_ (zba hz))
    refine wpAny_pure ?_
    obtain ⟨F3, st3, r⟩ := zgS ok w s.toks hz hvs
    exact hQ F3 _ [v, _] st3 (.cons (st3.rep w hv) (.cons r .nil))
end
noncomputable def fnOKb (ε : Sc) (fn : Fn) (ps : List Str) : Bool :=
  decide (ps.length = fn.np + (if fn.va then 1 else 0)) && decide ps.Nodup && (ps.zipIdx.all fun y => ε.vars.lookup y.1 == some y.2) && (ε.vars.all fun y => ε.kinds.lookup y.1 == some .local || ε.kinds.lookup y.1 == some .cell) && decide (ε.vars.map (·.2)).Nodup
theorem zir {l : List (Str × Nat)} (h : (l.map (·.2)).Nodup) {x y : Str} {i : Nat} (h1 : (x, i) ∈ l) (h2 : (y, i) ∈ l) : x = y := by
  induction l with
  | nil => cases h1
  | cons z r ih =>
    rw [List.map_cons] at h
    obtain ⟨n1, n2⟩ := List.nodup_cons.mp h
    rcases List.mem_cons.mp h1 with e1 | h1
    · rcases List.mem_cons.mp h2 with e2 | h2
      · rw [← e2] at e1; exact congrArg Prod.fst e1
      · exact (n1 (List.mem_map.mpr ⟨_, h2, by rw [← e1]⟩)).elim
    · rcases List.mem_cons.mp h2 with e2 | h2
      · exact (n1 (List.mem_map.mpr ⟨_, h1, by rw [← e2]⟩)).elim
      · exact ih n2 h1 h2
theorem FnIs.ofK {cx : XCx} {K : Frag} (X : K.In cx.h0) {ε : Sc} {i : Nat} {a : Addr} {fn : Fn} {body : List Stmt} {ps : List Str} {oc : Value} {od : Option Addr} {osl : Array (Option Value)} {name : Str} {params : Arguments} {scope : Scope} {dV kV doc pm ct : Value} {c : Addr} {an : Option Addr}
    (ha : cx.fa i = a) (nx : ¬ cx.X a) (ho : K.lookup a = some ⟨oc, od, .func (fnOf name name params body scope dV kV doc pm an (.ref c) ct), osl⟩) (hcd : codeIn K (.ref c) name = true) (ncx : ¬ cx.X c) (hc : ∀ c' q, ε.code = some (c', q) → (.ref c : Value) = .ref c' ∧ name ++ ".<locals>." = q)
    (hb : BindOK cx (fnOf name name params body scope dV kV doc pm an (.ref c) ct) fn ps) (names : scope.names = ε.kinds) (co : scope.isCoroutine = false) (gen : scope.isGenerator = false) (kind : scope.kind = .function) (h : fnOKb ε fn ps = true) :
    FnIs cx ε i fn (fnOf name name params body scope dV kV doc pm an (.ref c) ct) body ps := by
  unfold fnOKb at h
  simp only [Bool.and_eq_true, decide_eq_true_eq, List.all_eq_true, Bool.or_eq_true, beq_iff_eq] at h
  obtain ⟨⟨⟨⟨h1, h2⟩, h3⟩, h4⟩, h5⟩ := h
  refine ⟨⟨_, by rw [ha]; exact X _ _ ho, rfl⟩, by rw [ha]; exact nx, ⟨c, rfl, ncx, codeRec_of X hcd⟩, rfl, hc, rfl, rfl, rfl, co, gen, kind, names, hb, fun args ds e => ?_, h2, fun k x e => ?_, fun x j e => h4 (x, j) (zbo e), ⟨fun x y i ex ey => zir h5 (zbo ex) (zbo ey)⟩⟩
  · unfold boundTo at e
    split at e
    · rename_i hva
      split at e <;> cases e
      rename_i hl
      rw [h1, if_pos hva, List.length_append, List.length_take, List.length_singleton, Nat.min_eq_left hl.1]
    · rename_i hva
      split at e <;> cases e
      rename_i hl
      rw [h1, if_neg hva, hl]; rfl
  · have : (x, k) ∈ ps.zipIdx := List.mem_zipIdx_iff_getElem?.mpr (by simpa using e)
    exact h3 _ this
noncomputable abbrev mkCx (prog : Program) (w : World) (h₁ : Heap) (c P : Addr) (qs : List (Pos × PySem.Str)) (mg mb : SV) (fa : NAd) (T : NAd) : XCx :=
  { prog := prog, w := w, h0 := ghostOf h₁ [(c, P)], X := fun a => a = P, XI := fun _ => True, T := T, mg := mg, mb := mb, fa := fa, XF := TabXF c P qs }
section
variable {prog : Program} {w : World} {h₁ : Heap} {c P : Addr} {qs : List (Pos × PySem.Str)} {mg mb : SV} {fa : NAd} {p : Program} {loose : List Str} {mean : ExcName → Option Value} {K : Frag}
theorem zhH (c : Addr) : (ghostOf h₁ [(c, P)]).get? P = none := hideAll_none _ (by simp)
theorem zcx {a : Addr} {o : Obj} (e : (ghostOf h₁ [(c, P)]).get? a = some o) : a ≠ P := fun q => by rw [q, zhH c] at e; cases e
theorem zg5 {a : Addr} {o : Obj} (e : (ghostOf h₁ [(c, P)]).get? a = some o) : h₁.get? a = some o := of_hideAll _ e
theorem ns_at {h : Heap} {a : Addr} {m : SV} (x : h.Ns a m) : ∃ o, h.get? a = some o := let ⟨o, _, _, e, _⟩ := x; ⟨o, e⟩
theorem zhG (hT : TabsAt [(c, P)] h₁) (N : h₁.NoSeer) : (ghostOf h₁ [(c, P)]).NoSeer where
  statics := let ⟨mc, a, b⟩ := N.statics; ⟨mc, ghost_ns hT a, b⟩
  mods := let ⟨mc, a, b⟩ := N.mods; ⟨mc, ghost_ns hT a, b⟩
  imp := let ⟨mc, a, b⟩ := N.imp; ⟨mc, ghost_ns hT a, b⟩
  main := let ⟨mg, bm, ob, a, b, c, d, e⟩ := N.main; ⟨mg, bm, ob, ghost_ns hT a, b, ghost_get hT c (fun q => by rw [q] at d; cases d), d, e⟩
theorem ns_none {K : Frag} {h : Heap} {a : Addr} {m : SV} {n : Str} (X : K.In h) (G : h.Ns a m) (e : nsIn K a n = some none) : m n = none := by
  obtain ⟨o, es, ep, ho, hd, _, hf⟩ := G
  unfold nsIn at e
  split at e
  · rename_i c d es' n' sl q
    have := X _ _ q
    rw [ho] at this
    cases this
    cases hd
    split at e
    · cases e
    · rename_i he
      rw [← hf]
      unfold nsFind findBy
      rw [← Array.find?_toList, he]
      rfl
  · cases e
theorem cxOk_of (hT : TabsAt [(c, P)] h₁) (X : K.In (ghostOf h₁ [(c, P)])) (T1 : Top p loose mean mg mb h₁) (hi : importsNone p = true) (htree : prog.given.tree = none) (hnb : nsIn K cStatics sharingNotToldKey = some none) {T : NAd} (tinj : ∀ i j, T i = T j → i = j) :
    CxOk (mkCx prog w h₁ c P qs mg mb fa T) := by
  have nP : ∀ {a : Addr} {m : SV}, (ghostOf h₁ [(c, P)]).Ns a m → ¬ a = P := fun x => let ⟨_, e⟩ := ns_at x; zcx e
  have g := ghost_ns hT T1.g
  have b := ghost_ns hT T1.b
  obtain ⟨mc, s1, s2⟩ := T1.nolimit
  have s := ghost_ns hT s1
  exact ⟨fun F F' h h' x hF hk => x.mono hF hk, g, nP g, b, nP b, T1.builtins, ⟨mc, s, s2⟩, nP s, fun h hk => (zhG hT (T1.seer hi)).keeps fun a o e => hk a o e (zcx e), htree, ⟨mc, s, ns_none X s hnb⟩, tinj⟩
theorem wd_of (hT : TabsAt [(c, P)] h₁) {s : Shared} (hs : s.heap = h₁) (hg : s.gens = #[]) {T : NAd} : Wd (mkCx prog w h₁ c P qs mg mb fa T) (fun a => ∃ o, (ghostOf h₁ [(c, P)]).get? a = some o) s := by
  subst hs
  obtain ⟨hc, ht⟩ := hT _ List.mem_cons_self
  have C := (ghost_code hT).1
  refine ⟨fun a o e _ => zg5 e, ⟨?_, hc, #[], ht, trivial, fun pos q _ cv e => by cases e⟩, by rw [hg]; intro g h; simp at h, fun a o e _ => ⟨o, e⟩, fun a ⟨o, e⟩ => ⟨o, zg5 e⟩, fun a ⟨o, e⟩ => zcx e, fun a e => by subst e; exact ⟨_, ht⟩⟩
  obtain ⟨o, _, _, _, _, _, _, _, _, e, _⟩ := C
  exact ⟨o, e⟩
noncomputable def lamG_of (hT : TabsAt [(c, P)] h₁) (T1 : Top p loose mean mg mb h₁) {T : NAd} (hq : qs.Pairwise fun a b => a.1.line ≠ b.1.line ∨ a.1.col ≠ b.1.col) : LamG (mkCx prog w h₁ c P qs mg mb fa T) :=
  { c := c, Pt := P, qs := qs, xget := fun _ _ h => h, xset := fun _ _ _ _ _ _ _ h => h, xp := rfl, x0 := fun a o e => zcx e, apart := hq, blt := by
      obtain ⟨bm, ob, b1, b2, b3, b4, b5, b6⟩ := T1.bmain
      have gb : (ghostOf h₁ [(c, P)]).get? bm = some ob := ghost_get hT b3 fun q => by rw [q] at b4; cases b4
      refine ⟨bm, ob, b1, b2, fun e => ?_, zcx gb, gb, b4, b5, b6⟩
      obtain ⟨o, es, ep, ho, hd, _⟩ := T1.g
      rw [e, ho] at b3
      cases b3
      rw [hd] at b6; cases b6 }
noncomputable def tabKeys (es : Array DictEntry) : Bool := es.toList.all fun e => match e.key with | .int k _ => e.hash == hashInt k | _ => false
noncomputable def tabVals (es : Array DictEntry) : Bool := (List.range 128).all fun c => match findBy Value.isInt es (c : Int) with
  | some (.str x _) => special.contains c && x == ⟨#[92, c]⟩
  | none => !special.contains c
  | _ => false
theorem tabG_of {cx : XCx} (X : K.In cx.h0) {d : Addr} {es : Array DictEntry} {n : Nat} (nx : ¬ cx.X d) (hl : K.lookup d = some ⟨.type "dict", none, .dict es n, #[]⟩) (sys : (d == sysModules) = false) (hk : tabKeys es = true) (hv : tabVals es = true) : ∃ G : TabG cx, G.d = d := by
  unfold tabKeys at hk
  rw [List.all_eq_true] at hk
  unfold tabVals at hv
  rw [List.all_eq_true] at hv
  refine ⟨{ d := d, f := fun k => findBy Value.isInt es k, nx := nx, hm := ⟨_, es, n, X _ _ hl, ⟨rfl, rfl, rfl⟩, rfl, fun e he => ?_, fun _ => rfl⟩, sys := sys, yes := fun c hc hs => ?_, no := fun c hc hs => ?_ }, rfl⟩
  · have := hk e (Array.mem_toList_iff.mpr he)
    split at this
    · rename_i k t e1
      exact ⟨k, by rw [e1]; simp [intKind, Value.isInt], (by simpa using this : e.hash = hashInt k)⟩
    · cases this
  · have := hv c (List.mem_range.mpr hc)
    split at this
    · rename_i x t e1
      simp only [Bool.and_eq_true, beq_iff_eq] at this
      exact ⟨t, by rw [e1, this.2]⟩
    · rw [hs] at this; cases this
    · cases this
  · have := hv c (List.mem_range.mpr hc)
    split at this
    · rw [hs] at this; cases this
    · assumption
    · cases this
end
section
variable {cx : XCx}
theorem zjb {ε : Sc} {i : Nat} {fn : Fn} {fd : FuncData} {body : List Stmt} {ps : List Str} (X : FnIs cx ε i fn fd body ps) (ok : CxOk cx) {n : Nat}
    {args : List D} {ρ : List Slot} (hb : bindD fn args = some ρ)
    {A : Around} {F : AP} {s : Shared} {vs : List Value} (bud : Bud (n + 1) A) (w : Wd cx F s) (q : RepL cx.T F s.heap vs args) {Rs : Result → Shared → Prop}
    (k : ∀ (A' : Around) (env : Env) (F₁ : AP) (s₂ : Shared) (m cm : SV) (Q : Flow → Shared → Prop) (E : VP), BudE n A' → Wd cx F₁ s₂ → s₂.os = s.os → Frm cx ε env F₁ s₂ ρ (fun _ => 0) m cm → (∀ v s', Rs (.ok (.ret v)) s' → Q (.ret v) s') →
      wpAny (model cx.prog cx.w) A' (execs body env) Q E s₂) : codeAny (model cx.prog cx.w) A (.call (.ref (cx.fa i)) ⟨vs, []⟩) Rs s := by
  obtain ⟨ob, g, hfd⟩ := X.obj
  obtain ⟨c, hcode, ncx, hcd⟩ := X.code
  obtain ⟨ds, kk, hbd, rfl⟩ := zea hb
  have hroom : A.depth < recursionLimit := Nat.lt_of_le_of_lt (Nat.le_add_right _ _) (Nat.lt_trans bud.dp (by decide))
  refine codeAny_call_function hroom (w.base _ _ g X.nx) hfd X.co X.gen X.body (by rw [hcode]; exact hcd.at fun o e => w.base _ o e ncx) ?_
  refine X.bind A.in1 F s vs args ds ok w q hbd _ _ fun F₁ s₁ vs' st₁ q₁ => ?_
  rw [X.clo]
  have hlen : ds.length = ps.length := X.len _ _ hbd
  have hvl : vs'.length = ps.length := q₁.length.trans hlen
  have kindOf : ∀ x, (callEnvC fd s₁.heap.objs.size (cx.fa i)).kindOf x = ε.kinds.lookup x := fun x => by show fd.scope.names.lookup x = _; rw [X.names]
  have inps : ∀ x ∈ ps, ∃ k, ps[k]? = some x := fun x hx => by
    obtain ⟨k, hk, e⟩ := List.mem_iff_getElem.mp hx
    exact ⟨k, by rw [List.getElem?_eq_getElem hk, e]⟩
  have hkind : ∀ x ∈ ps.zip vs', fd.scope.names.lookup x.1 = some .local ∨ (fd.scope.names.lookup x.1 = some .cell ∧ ((cellsFrom (s₁.heap.objs.size + 1) fd.scope.names []).lookup x.1).isSome = true) := by
    intro x hx
    obtain ⟨k, hk⟩ := inps x.1 (List.of_mem_zip hx).1
    rw [X.names]
    rcases X.vk x.1 k (X.pv k x.1 hk) with h | h
    · exact .inl h
    · exact .inr ⟨h, zbx (.inr (zbo h))⟩
  refine wpAny_newFunctionEnv_cells X.kind hkind fun env hen s₂ ic => ?_
  have hen' : env = callEnvC fd s₁.heap.objs.size (cx.fa i) := hen
  subst hen'
  obtain ⟨h₂, tk₂, rfl⟩ := ic.toInCall.same
  have keep₂ := ic.toInCall.keep
  have st₂ : Step cx F₁ s₁ F₁ { s₁ with heap := h₂, toks := tk₂ } := Step.grown ok st₁.wd tk₂ keep₂
  have w₂ := st₂.wd
  refine ⟨w₂.lim ok, codeAny_func ?_⟩
  let E₀ : Env := callEnvC fd s₁.heap.objs.size (cx.fa i)
  let m₀ : Str → Option Value := bindL E₀.kindOf (ps.zip vs') fun _ => none
  let cm₀ : Str → Option Value := bindC E₀.kindOf (ps.zip vs') fun _ => none
  have frL : s₁.heap.get? s₁.heap.objs.size = none := zbe _
  have frC : ∀ n c, E₀.cells.lookup n = some c → s₁.heap.get? c = none ∧ c ≠ s₁.heap.objs.size := fun n c hc => by
    have hlt : s₁.heap.objs.size < c := ic.above n c (mem_of_lookup hc)
    refine ⟨?_, Nat.ne_of_gt hlt⟩
    cases e : s₁.heap.get? c with
    | none => rfl
    | some o => exact absurd (Heap.lt_size e) (Nat.not_lt.mpr (Nat.le_of_lt hlt))
  have noOwn : ∀ j l, slotAt (ds.map Slot.val ++ List.replicate kk .unset) j ≠ .own l := fun j l e => by
    rw [zb2] at e
    split at e <;> cases e
  have fresh₀ : ∀ a, Mut E₀ (ds.map Slot.val ++ List.replicate kk .unset) (fun _ => 0) a → s₁.heap.get? a = none := fun a h => by
    rcases h with rfl | ⟨n, hn⟩ | ⟨j, l, hj, _⟩
    · exact frL
    · exact (frC n a hn).1
    · exact absurd hj (noOwn j l)
  have slots : ∀ x j, ε.vars.lookup x = some j → (ε.kinds.lookup x = some .local ∧ SlotRep cx F₁ h₂ (fun _ => 0) j (m₀ x) (slotAt (ds.map Slot.val ++ List.replicate kk .unset) j)) ∨
      ((ε.kinds.lookup x = some .cell ∨ ε.kinds.lookup x = some .free) ∧ (∃ c, E₀.cells.lookup x = some c) ∧ SlotRep cx F₁ h₂ (fun _ => 0) j (cm₀ x) (slotAt (ds.map Slot.val ++ List.replicate kk .unset) j)) := by
    intro x j hx
    have look : ∀ dj, ds[j]? = some dj → ps[j]? = some x ∧ ∃ v, vs'[j]? = some v ∧ Rep cx.T F₁ h₂ v dj := fun dj hj => by
      obtain ⟨v, hv, r⟩ := q₁.get hj
      have hlt : j < ps.length := by rw [← hlen]; exact (List.getElem?_eq_some_iff.mp hj).1
      have hp : ps[j]? = some ps[j] := List.getElem?_eq_getElem hlt
      have := X.sc.inj x ps[j] j hx (X.pv j _ hp)
      exact ⟨by rw [hp, this], v, hv, st₂.rep st₁.wd r⟩
    rw [zb2]
    rcases X.vk x j hx with hk | hk
    · left
      refine ⟨hk, ?_⟩
      split
      · rename_i dj hj
        obtain ⟨hp, v, hv, r⟩ := look dj hj
        have : m₀ x = some v := zfe (by rw [kindOf]; exact hk) X.nodup hp hv
        rw [this]
        exact .val r
      · exact .unset
    · right
      refine ⟨.inl hk, ?_, ?_⟩
      · refine Option.isSome_iff_exists.mp (zbx (.inr ?_))
        rw [X.names]
        exact zbo hk
      · split
        · rename_i dj hj
          obtain ⟨hp, v, hv, r⟩ := look dj hj
          have : cm₀ x = some v := zff (by rw [kindOf, hk]; intro e; cases e) X.nodup hp hv
          rw [this]
          exact .val r
        · exact .unset
  have fr : Frm cx ε E₀ F₁ { s₁ with heap := h₂, toks := tk₂ } (ds.map Slot.val ++ List.replicate kk .unset) (fun _ => 0) m₀ cm₀ := by
    refine ⟨⟨X.kind, X.names, X.glob, X.blt, X.codeAt, st₁.wd.newNotX frL, fun n c hc => st₁.wd.newNotX (frC n c hc).1, ic.toInCall.ns, ic.cell, slots⟩, st₁.wd.newNotF frL, fun n c hc => ⟨st₁.wd.newNotF (frC n c hc).1, (frC n c hc).2⟩, fun n n' c h h' => name_of_addr ic.apart (mem_of_lookup h) (mem_of_lookup h'), fun j _ l _ h => absurd h (noOwn j l), fun j l h => absurd h (noOwn j l)⟩
  have budE : BudE n (A.deeper E₀) := by
    obtain ⟨l, hl⟩ := bud.fs
    refine ⟨⟨bud.hd, zkF bud.dp, zkD bud.un, ⟨_, by show A.frames.map _ = _; rw [hl]; rfl⟩⟩, zkE bud.un, E₀, l, by show A.frames.map _ = _; rw [hl]; rfl, X.gen, X.co, X.blt, X.glob⟩
  exact k (A.deeper E₀) E₀ F₁ _ m₀ cm₀ _ _ budE w₂ (st₁.os) fr fun v s' h => h
end
theorem repInts {T T' : NAd} {F F' : AP} {h : Heap} (hF : ∀ a, F a → F' a) {ns : List Int} : ∀ {vs : List Value}, RepL T F h vs (ns.map .int) → RepL T' F' h vs (ns.map .int) := by
  induction ns with
  | nil => intro vs q; cases q; exact .nil
  | cons i ns ih =>
    intro vs q
    cases q with
    | cons a r =>
      generalize hd : D.int i = d at a
      cases a <;> cases hd
      exact .cons (.int _ _) (ih r)
theorem zie {T T' : NAd} {F F' : AP} {h : Heap} (hF : ∀ a, F a → F' a) {ns : List Int} {v : Value} (r : Rep T F h v (.list (ns.map .int))) : Rep T' F' h v (.list (ns.map .int)) := by
  cases r with
  | list f g z q => exact .list (hF _ f) g z (repInts hF q)
theorem Frm.retok {cx : XCx} {T' : NAd} {X' : AP} {XF' : (Addr → Prop) → Heap → Prop} {ck : (Nat → List D → Option D) → Prop} {ε : Sc} {env : Env} {F : AP} {s : Shared} {ρ ρ' : List Slot} {ad : NAd} {m cm : SV} (w : Wd cx F s) (f : Frm cx ε env F s ρ ad m cm)
    (hX : ∀ a, cx.X a → X' a) (hX' : ∀ a, X' a → cx.X a ∨ (¬ F a ∧ ¬ Mut env ρ ad a ∧ ∃ o, s.heap.get? a = some o)) (xi : XF' (fun a => F a ∨ ∃ j l, slotAt ρ j = .own l ∧ a = ad j) s.heap)
    (h : ∀ j, (∃ k, slotAt ρ j = .own [.str (tokC k)] ∧ slotAt ρ' j = .val (.tok k) ∧ T' k = ad j) ∨ ((slotAt ρ j = .unset ∨ ∃ ns : List Int, slotAt ρ j = .val (.list (ns.map .int))) ∧ slotAt ρ' j = slotAt ρ j)) :
    Wd { cx with T := T', X := X', XF := XF', cok := ck } (fun a => F a ∨ ∃ j l, slotAt ρ j = .own l ∧ a = ad j) s ∧ Frm { cx with T := T', X := X', XF := XF', cok := ck } ε env (fun a => F a ∨ ∃ j l, slotAt ρ j = .own l ∧ a = ad j) s ρ' ad m cm := by
  have hsub : ∀ a, F a → (F a ∨ ∃ j l, slotAt ρ j = .own l ∧ a = ad j) := fun _ h => .inl h
  have mutX : ∀ a, Mut env ρ ad a → ¬ X' a := fun a h q => (hX' a q).elim (f.notF h).2 fun q => q.2.1 h
  have noOwn : ∀ j l, slotAt ρ' j ≠ .own l := fun j l e => by
    rcases h j with ⟨k, _, e2, _⟩ | ⟨e1, e2⟩
    · rw [e2] at e; cases e
    · rw [e2] at e
      rcases e1 with e1 | ⟨ns, e1⟩ <;> rw [e1] at e <;> cases e
  have slots : ∀ j ov, SlotRep cx F s.heap ad j ov (slotAt ρ j) → SlotRep { cx with T := T', X := X', XF := XF', cok := ck } (fun a => F a ∨ ∃ j l, slotAt ρ j = .own l ∧ a = ad j) s.heap ad j ov (slotAt ρ' j) := by
    intro j ov q
    rcases h j with ⟨k, e1, e2, e3⟩ | ⟨e1, e2⟩
    · rw [e2]
      generalize hsl : slotAt ρ j = sl at q
      rw [e1] at hsl
      subst hsl
      cases q with
      | dic _ _ _ _ q _ _ =>
        cases q
      | own nf nx g z q =>
        cases q with
        | cons q1 q2 =>
          cases q2
          cases q1 with
          | str t p z' =>
            rw [← e3]
            exact .val (Rep.tok (T := T') (k := k) fun _ => ⟨.inr ⟨j, _, e1, e3⟩, _, _, e3 ▸ g⟩)
    · rw [e2]
      rcases e1 with e1 | ⟨ns, e1⟩
      · rw [e1]; exact .unset
      · rw [e1] at q ⊢
        cases q with
        | val q => exact .val (zie hsub q)
  refine ⟨⟨fun a o e nx => w.base a o e fun q => nx (hX a q), xi, w.gens, fun a o e nx => .inl (w.f0 a o e fun q => nx (hX a q)), fun a h => ?_, fun a h => ?_, fun a q => (hX' a q).elim (w.xex a) fun q => q.2.2⟩,
    ⟨⟨f.en.kind, f.en.names, f.en.glob, f.en.blt, f.en.code, mutX _ (.inl rfl), fun n c hc => mutX c (.inr (.inl ⟨n, hc⟩)), f.en.ns, f.en.cells, fun y j hy => (f.en.vars y j hy).imp (fun ⟨k, q⟩ => ⟨k, slots j _ q⟩) fun ⟨k, c, q⟩ => ⟨k, c, slots j _ q⟩⟩,
      fun h => ?_, fun n c hc => ⟨fun h => ?_, (f.cf n c hc).2⟩, f.cinj, fun i j l _ e => absurd e (noOwn i l), fun i l e => absurd e (noOwn i l)⟩⟩
  · rcases h with h | ⟨j, l, e, rfl⟩
    · exact w.lt a h
    · exact (f.own j l e).2.2.1
  · rcases h with h | ⟨j, l, e, rfl⟩
    · exact fun q => (hX' a q).elim (w.nx a h) fun q => q.1 h
    · exact mutX _ (.inr (.inr ⟨j, l, e, rfl⟩))
  · rcases h with h | ⟨j, l, e, q⟩
    · exact f.lf h
    · exact (f.own j l e).2.2.2.1 q.symm
  · rcases h with h | ⟨j, l, e, q⟩
    · exact (f.cf n c hc).1 h
    · exact (f.own j l e).2.2.2.2 n (q ▸ hc)
noncomputable abbrev XCx.withT (cx : XCx) (T : NAd) : XCx := { cx with T := T }
noncomputable def PlainRho (ρ : List Slot) : Prop := ∀ j, slotAt ρ j = .unset ∨ ∃ ns : List Int, slotAt ρ j = .val (.list (ns.map .int))
noncomputable def Inj (T : NAd) : Prop := ∀ i j, T i = T j → i = j
noncomputable abbrev newTok (i : Nat) (k : Nat) : S := .assignO i (.list (.cons (.const (.str (tokC k))) .nil))
theorem ziX {cf : CfT} {i k : Nat} {ρ : List Slot} (h : noApp i ρ = true) (hd : dSlot i = false) : ex cf (newTok i k) ρ = some (ρ.set i (.own [.str (tokC k)]), .next) := by
  unfold newTok
  rw [zcP, h, if_pos rfl]
  exact if_neg (by rw [hd]; exact Bool.false_ne_true)
theorem zcj {β : Type} {p : Nat → Bool} {x : Nat} {j : β} : ∀ {l : List (Nat × β)}, (l.filter fun y => p y.1).lookup x = some j → l.lookup x = some j ∧ p x = true
  | [], e => by cases e
  | (y, b) :: r, e => by
    rw [List.filter_cons] at e
    split at e
    · rename_i hp
      rw [List.lookup_cons] at e ⊢
      cases hx : x == y with
      | true =>
        rw [hx] at e
        exact ⟨e, by rw [beq_iff_eq.mp hx]; exact hp⟩
      | false =>
        rw [hx] at e
        exact zcj e
    · rename_i hp
      obtain ⟨h1, h2⟩ := zcj e
      refine ⟨?_, h2⟩
      rw [List.lookup_cons]
      cases hx : x == y with
      | true => rw [beq_iff_eq.mp hx] at h2; exact absurd h2 hp
      | false => exact h1
noncomputable abbrev dropK (P : Addr) (K : Frag) : Frag := K.filter fun y => (fun a : Nat => a != P) y.1
theorem zfO {K : Frag} {h₁ : Heap} {c P : Addr} (X : K.In h₁) : (dropK P K).In (ghostOf h₁ [(c, P)]) := fun a o e => by
  obtain ⟨h1, h2⟩ := zcj (p := fun a : Nat => a != P) e
  exact hideAll_get _ (X a o h1) (by simpa using h2)
theorem gn_of {cx : XCx} {fs : List (Str × Nat)} {bs : List Str} (h1 : ∀ p ∈ fs, cx.mg p.1 = some (.ref (cx.fa p.2))) (h2 : ∀ x ∈ bs, cx.mg x = none) : GN cx fs bs := ⟨fun x i h => h1 (x, i) h, h2⟩
theorem zg2 {T : NAd} {F : AP} {h : Heap} : ∀ {vs : List Value} {ns : List Int}, IntsAre vs ns → RepL T F h vs (ns.map .int)
  | _, _, .nil => .nil
  | _, _, .cons n t r => .cons (.int n t) (zg2 r)
theorem ziQ {c P : Addr} {qs : List (Pos × PySem.Str)} {cw : ClaimW} {cl : Str → Option Addr} {mean : ExcName → Option Value} {args : List WData} {s₁ s' : Shared} {F' : AP}
    (hT : TabsAt [(c, P)] s₁.heap) (hr : ∀ x, cw.raises args x = false) (hp : cw.post args (.bool true) args = true) (xi : TabXF c P qs F' s'.heap) (base : ∀ b o, (ghostOf s₁.heap [(c, P)]).get? b = some o → s'.heap.get? b = some o) (gens : GensBare s'.gens) (os : s'.os = s₁.os) : GoodWG cw cl mean args s₁ (.ok (.ret (.bool true))) s' := by
  obtain ⟨hc, ht⟩ := hT _ List.mem_cons_self
  obtain ⟨_, _, ps, hP, _⟩ := xi
  refine ⟨.inl ⟨.bool true, .bool true, [], rfl, hr, .bool true, hp, fun _ => ⟨List.nodup_nil, fun a h => nomatch h⟩⟩, ⟨fun b o e => ?_, fun b o e => ?_⟩, os, gens⟩
  · by_cases hb : b = P
    · subst hb
      have e2 : o = tabObj #[] := Option.some.inj (e.symm.trans ht)
      subst e2
      exact .inr (.inl ⟨(hc.tab ht).isCodeTable, rfl, #[], ps, rfl, by rw [Array.empty_append]; exact hP⟩)
    · exact .inl (base b o (ghost_ne e (by simpa using hb)))
  · by_cases hb : b = P
    · subst hb
      exact ⟨_, hP⟩
    · exact ⟨o, base b o (ghost_ne e (by simpa using hb))⟩
end Mine
end
section
open PySem PySem.Calls PyProof.Rows PySem.Builtin.Str
namespace Mine
section
variable {cx : XCx} {ε : Sc}
theorem zid {T : NAd} {F : AP} {h : Heap} : ∀ {vs : List Value} {ds : List D}, vs.length = ds.length → (∀ (i : Nat) v d, vs[i]? = some v → ds[i]? = some d → Rep T F h v d) → RepL T F h vs ds
  | [], [], _, _ => .nil
  | v :: vs, d :: ds, hl, hp => .cons (hp 0 v d rfl rfl) (zid (by simpa using hl) fun i v d h1 h2 => hp (i + 1) v d h1 h2)
  | [], _ :: _, hl, _ => by simp at hl
  | _ :: _, [], hl, _ => by simp at hl
theorem ze0 {A : Around} (hh : A.handled = none) {F₀ F : AP} {s₀ s : Shared} (ok : CxOk cx) (st : Step cx F₀ s₀ F s) {r : Addr} {a b c : Int} {t u v : Tok} (hr : IsRange s.heap r a b c t u v) (hs : Builtin.Range.small a b c = true)
    {k : Nat} (hk : Builtin.Range.rangeSize a b c = (k : Int)) (hl : k ≤ lim) {Q E : VP} (hQ : Post cx F₀ s₀ (.own ((upTo k a c).map .int)) Q) : wpAny (model cx.prog cx.w) A (call (.type "list") [.ref r]) Q E s := by
  refine call_list_range hh hr hs hk (by unfold lim at hl; omega) fun h' tk acc c' keep hS hacc => ?_
  have hf : s.heap.get? s.heap.objs.size = none := zbe _
  have st' := st.trans (Step.grown ok st.wd tk keep)
  have nx := st.wd.newNotX hf
  refine hQ _ _ _ st' (.own (n := c') (st.fresh nx hf) (st.wd.newNotF hf) nx (vs := acc.toList) (by simpa using hS) (by simp [hacc.1]; exact hl) (zid (by simp [hacc.1, upTo]) fun i v d h1 h2 => ?_))
  obtain ⟨tk', rfl⟩ := hacc.2 i v (by simpa using h1)
  have hi : i < k := by
    have := (List.getElem?_eq_some_iff.mp h1).1
    simpa [hacc.1] using this
  have : d = .int (a + i * c) := by
    unfold upTo at h2
    rw [List.map_map, List.getElem?_map, List.getElem?_range hi] at h2
    have := Option.some.inj h2
    rw [← this]
    show D.int (a + c * (i : Int)) = _
    rw [Int.mul_comm]
  rw [this]
  exact .int _ tk'
theorem zhz {A : Around} {n : Nat} (hb : BudE n A) {F₀ F : AP} {s₀ s : Shared} (ok : CxOk cx) (st : Step cx F₀ s₀ F s) {vs : List Value} {ds : List D} (q : BRepL cx F s.heap vs ds) {l : List D} (hl : opRange ds = some l)
    {Q E : VP} (hQ : Post cx F₀ s₀ (.own l) Q) :
    wpAny (model cx.prog cx.w) A (call (.type "range") vs) (fun v s₁ => wpAny (model cx.prog cx.w) A (call (.type "list") [v]) Q E s₁) E s :=
  zew ok st q hl fun r a b c t u v k s' st' hr hs hk hl' e => ze0 hb.hd ok st' hr hs hk hl' (e ▸ hQ)
theorem zdQ {p p' pos' pos : Pos} {es : List Expr} {x : X} (hk : ε.kinds.lookup ("list" : Str) = some .globalImplicit) (hg : cx.mg ("list" : Str) = none) (hk' : ε.kinds.lookup ("range" : Str) = some .globalImplicit) (hg' : cx.mg ("range" : Str) = none) (h : SoundL cx ε es x false) :
    Sound cx ε (.Call (.Name "list" p) [.Call (.Name "range" p') es [] pos'] [] pos) (.op .listOf (.cons (.rangeI x) .nil)) := by
  refine Sound.ofE ?_ fun _ => rfl
  intro n cf A env F s ρ ad m cm H res he Q E hQ
  obtain ⟨rs, e1, e2⟩ := ev_op he
  obtain ⟨r, rs', e3, e4, rfl⟩ := zax e1
  cases zbX e4
  obtain ⟨ds, l, e5, e6, rfl⟩ : ∃ ds l, ev cf x ρ = some ds ∧ opRange (ds.map R.ds) = some l ∧ r = .val (.list l) := by
    replace e3 := (zal _).symm.trans e3
    split at e3
    · rename_i ds e
      obtain ⟨l, e7, e8⟩ := Option.map_eq_some_iff.mp e3
      cases e8
      exact ⟨ds, l, e, e7, rfl⟩
    · cases e3
  cases e2
  rw [za3 (by intro _ _ _ e; cases e)]
  refine wb (zbQ H hk hg (by decide) (v := .type "list") (by rfl) (by decide) ?_)
  rw [zau rfl, zaH]
  refine PyProof.Rows.callWith_type rfl (Calls.evalArgs_plain (Calls.spliced_cons ?_))
  rw [za3 (by intro _ _ _ e; cases e)]
  refine wb (zbQ H hk' hg' (by decide) (v := .type "range") (by rfl) (by decide) ?_)
  refine PyProof.Rows.callWith_type (zbf h) (zbu h H e5 fun vs F' s' st q => ?_)
  refine wpAny_mono (zhz H.bud H.ok st q.brep e6 hQ) (fun v s₁ h₁ => ?_) fun _ _ x => x
  exact Calls.spliced_nil h₁
end
theorem turn_in (elt t1 i1 t2 i2 : Expr) (scope : Scope) (pos : Pos) (it acc : Value) (env : Env) :
    compTurn (.ListComp elt [⟨t1, i1, [], 0⟩, ⟨t2, i2, [], 0⟩] scope pos) 1 it acc env = (do
      standAt i2.pos
      match ← pyNext it with
      | none => pure (.done .next)
      | some v =>
        letOwnedTupleGo t2 it v
        assign t2 env v
        (do let _ ← call (.builtin "list.append") [acc, ← eval elt env])
        again (.compLoop (.ListComp elt [⟨t1, i1, [], 0⟩, ⟨t2, i2, [], 0⟩] scope pos) 1 it acc env)) := by rfl
theorem zjp (elt t1 i1 t2 i2 : Expr) (scope : Scope) (pos : Pos) (it acc : Value) (env : Env) :
    compTurn (.ListComp elt [⟨t1, i1, [], 0⟩, ⟨t2, i2, [], 0⟩] scope pos) 0 it acc env = (do
      standAt i1.pos
      match ← pyNext it with
      | none => pure (.done .next)
      | some v =>
        letOwnedTupleGo t1 it v
        assign t1 env v
        let x ← eval i2 env
        standAt i2.pos
        let x ← foldedSetIterable i2 env x
        let _ ← runOwn (.compStart (.ListComp elt [⟨t1, i1, [], 0⟩, ⟨t2, i2, [], 0⟩] scope pos) 1 (← holding [x] (pyIter x)) acc env) env
        again (.compLoop (.ListComp elt [⟨t1, i1, [], 0⟩, ⟨t2, i2, [], 0⟩] scope pos) 0 it acc env)) := by rfl
section
variable {prog : Program} {w : World} {A : Around} {R : Result → Shared → Prop} {s : Shared} {elt t1 i1 t2 i2 : Expr} {scope : Scope} {pos : Pos} {it acc : Value} {env : Env}
theorem loop_in (I : Nat → Shared → Prop)
    (turn : ∀ n s, I n s → wpAny (model prog w) A (pyNext it) (fun r s₁ => match r with
      | none => R (.ok .next) s₁
      | some v => wpAny (model prog w) A (letOwnedTupleGo t2 it v) (fun _ s₁' => wpAny (model prog w) A (assign t2 env v) (fun _ s₂ =>
          wpAny (model prog w) A (eval elt env) (fun x s₄ =>
              wpAny (model prog w) A (call (.builtin "list.append") [acc, x]) (fun _ s₅ => ∃ m, m < n ∧ I m s₅) (notedBy (model prog w) A env fun e s' => R (.error e) s') s₄) (notedBy (model prog w) A env fun e s' => R (.error e) s') s₂) (notedBy (model prog w) A env fun e s' => R (.error e) s') s₁') (notedBy (model prog w) A env fun e s' => R (.error e) s') s₁) (notedBy (model prog w) A env fun e s' => R (.error e) s') s)
    (n : Nat) (h : I n s) :
    codeAny (model prog w) A (.compLoop (.ListComp elt [⟨t1, i1, [], 0⟩, ⟨t2, i2, [], 0⟩] scope pos) 1 it acc env) R s := by
  refine codeAny_loop rfl I (fun n s hI => ?_) n h
  show wpAny _ A ((compTurn (.ListComp elt [⟨t1, i1, [], 0⟩, ⟨t2, i2, [], 0⟩] scope pos) 1 it acc env).onRaise (fun x => do noteFrame x env; theTreesLotGoes x)) _ _ s
  refine wpAny_noted ?_
  rw [turn_in]
  refine wb (wpAny_standAt (wb (wpAny_mono (turn n s hI) (fun r s₁ h₁ => ?_) fun _ _ h' => h')))
  cases r with
  | none => exact wpAny_pure h₁
  | some v =>
    exact wb (wpAny_mono h₁ (fun _ s₁' h₁' => wb (wpAny_mono h₁' (fun _ s₂ h₂ => wb (wb (wpAny_mono h₂ (fun x s₄ h₄ => wb (wpAny_mono h₄ (fun _ s₅ h₅ => wpAny_pure (wpAny_pure ⟨rfl, h₅⟩)) fun _ _ h' => h')) fun _ _ h' => h'))) fun _ _ h' => h')) fun _ _ h' => h')
theorem zjX (hs : ∀ env x, foldedSetIterable i2 env x = pure x) (I : Nat → Shared → Prop)
    (turn : ∀ n s, I n s → wpAny (model prog w) A (pyNext it) (fun r s₁ => match r with
      | none => R (.ok .next) s₁
      | some v => wpAny (model prog w) A (letOwnedTupleGo t1 it v) (fun _ s₁' => wpAny (model prog w) A (assign t1 env v) (fun _ s₂ =>
          wpAny (model prog w) A (eval i2 env) (fun x s₃ => wpAny (model prog w) A (pyIter x) (fun it2 s₄ =>
              codeAny (model prog w) A (.compStart (.ListComp elt [⟨t1, i1, [], 0⟩, ⟨t2, i2, [], 0⟩] scope pos) 1 it2 acc env) (fun r s' => match r with | .ok _ => ∃ m, m < n ∧ I m s' | .error e => cameBackBy (model prog w) A env (notedBy (model prog w) A env fun e s' => R (.error e) s') e s') s₄) (notedBy (model prog w) A env fun e s' => R (.error e) s') s₃) (notedBy (model prog w) A env fun e s' => R (.error e) s') s₂) (notedBy (model prog w) A env fun e s' => R (.error e) s') s₁') (notedBy (model prog w) A env fun e s' => R (.error e) s') s₁) (notedBy (model prog w) A env fun e s' => R (.error e) s') s)
    (n : Nat) (h : I n s) :
    codeAny (model prog w) A (.compLoop (.ListComp elt [⟨t1, i1, [], 0⟩, ⟨t2, i2, [], 0⟩] scope pos) 0 it acc env) R s := by
  refine codeAny_loop rfl I (fun n s hI => ?_) n h
  show wpAny _ A ((compTurn (.ListComp elt [⟨t1, i1, [], 0⟩, ⟨t2, i2, [], 0⟩] scope pos) 0 it acc env).onRaise (fun x => do noteFrame x env; theTreesLotGoes x)) _ _ s
  refine wpAny_noted ?_
  rw [zjp]
  refine wb (wpAny_standAt (wb (wpAny_mono (turn n s hI) (fun r s₁ h₁ => ?_) fun _ _ h' => h')))
  cases r with
  | none => exact wpAny_pure h₁
  | some v =>
    refine wb (wpAny_mono h₁ (fun _ s₁' h₁' => wb (wpAny_mono h₁' (fun _ s₂ h₂ => wb (wpAny_mono h₂ (fun x s₃ h₃ => wb (wpAny_standAt (wb (wpAny_of_eq (hs env x) (wb (wpAny_holding (wpAny_mono h₃ (fun it2 s₄ h₄ => ?_) fun _ _ h' => h'))))))) fun _ _ h' => h')) fun _ _ h' => h')) fun _ _ h' => h')
    refine wb (wpAny_runOwn (codeAny_mono h₄ fun r s' hr => ?_))
    cases r with
    | ok f => exact wpAny_pure ⟨rfl, hr⟩
    | error e => exact hr
theorem zju (h0 : codeAny (model prog w) A (.compLoop (.ListComp elt [⟨t1, i1, [], 0⟩, ⟨t2, i2, [], 0⟩] scope pos) 1 it acc env) R s)
    (h : wpAny (model prog w) A (pyIter it) (fun it' s' => codeAny (model prog w) A (.compLoop (.ListComp elt [⟨t1, i1, [], 0⟩, ⟨t2, i2, [], 0⟩] scope pos) 1 it' acc env) R s') (notedBy (model prog w) A env fun x s' => R (.error x) s') s) :
    codeAny (model prog w) A (.compStart (.ListComp elt [⟨t1, i1, [], 0⟩, ⟨t2, i2, [], 0⟩] scope pos) 1 it acc env) R s := by
  refine codeAny_of_tree ?_
  show wpAny _ _ ((compStart (.ListComp elt [⟨t1, i1, [], 0⟩, ⟨t2, i2, [], 0⟩] scope pos) 1 it acc env).onRaise (fun x => do noteFrame x env; standAt theWindowsPlace)) _ _ s
  refine wpAny_notedAt ?_
  unfold compStart
  show wpAny _ _ (ask >>= _) _ _ s
  refine wb (wpAny_askSetting (wpAny_ite ?_))
  split
  · first
      | exact wb (wpAny_pure (wpAny_pure (And.intro rfl h0)))
      | exact wpAny_pure (And.intro rfl h0)
  · first
      | exact wb (wpAny_rule (wb (wpAny_standAt (wb (wpAny_mono h (fun it' s' h' => wpAny_pure (And.intro rfl h')) fun _ _ x => x)))))
      | (refine wb (wpAny_rule ?_); show wpAny _ _ (standAt i2.pos >>= _) _ _ s; exact wb (wpAny_standAt (wb (wpAny_mono h (fun it' s' h' => wpAny_pure (And.intro rfl h')) fun _ _ x => x))))
end
section
variable {cx : XCx} {ε : Sc}
theorem updL_in {m : SV} {x y : Str} {v u : Value} (h : m x = some v) : updL m [y] [u] = updL m [x, y] [v, u] := by
  have : (fun z => if z = x then some v else m z) = m := by
    funext z
    by_cases e : z = x
    · rw [if_pos e, e, h]
    · rw [if_neg e]
  show (fun z => if z = y then some u else m z) = fun z => if z = y then some u else (fun z => if z = x then some v else m z) z
  rw [this]
inductive InI (cx : XCx) (F : AP) (s : Shared) (F1 : AP) (h1 : Heap) (wr : List Addr) (Da C : Addr) (St : Nat → Heap → Prop) (M : (Str → Option Value) → Prop) (ys0 : List Value) (items l : List D) (go : List D → Option (List D)) (k : Nat) (s' : Shared) : Prop
  | mk (j : Nat) (F' : AP) (ys : List Value) (ds : List D) (kk : Nat) (m' : SV) (hj : j ≤ items.length) (hk : k = items.length - j) (st : Step cx F s F' s') (hF : ∀ a, F1 a → F' a)
    (hnf : ∀ b o, b ≠ Da → b ≠ C → b ∉ wr → ¬ cx.X b → h1.get? b = some o → s'.heap.get? b = some o ∧ (¬ F1 b → ¬ F' b)) (hst : St j s'.heap) (hwr : ∀ b ∈ wr, ¬ F' b) (hnD : ¬ F' Da) (hnC : ¬ F' C)
    (hD : s'.heap.get? Da = some (lobj (ys0 ++ ys).toArray kk)) (hys : RepL cx.T F' s'.heap ys ds) (hns : s'.heap.Ns C m') (hm : M m') (rest : List D) (hgo : go (items.drop j) = some rest) (hrest : l = ds ++ rest) : InI cx F s F1 h1 wr Da C St M ys0 items l go k s'
set_option genInjectivity false in
structure Still (cx : XCx) (F1 : AP) (h1 : Heap) (wr fp : List Addr) (Da C : Addr) : Prop where
  cd : C ≠ Da
  xD : ¬ cx.X Da
  xC : ¬ cx.X C
  nD : ¬ F1 Da
  nC : ¬ F1 C
  wD : Da ∉ wr
  wC : C ∉ wr
  xw : ∀ b ∈ wr, ¬ cx.X b
  xF : ∀ a, F1 a → ¬ cx.X a
  nw : ∀ b ∈ wr, ¬ F1 b
  iD : ∃ o, h1.get? Da = some o
  iC : ∃ o, h1.get? C = some o
  deps : ∀ b ∈ fp, b ∈ wr ∨ F1 b
  lt : ∀ a, F1 a → ∃ o, h1.get? a = some o
theorem zi7 {f : D → Option (List R)} {d : D} {r rest : List D} (h : compGo (fun d => turnD (some [.val (.bool true)]) (f d)) (d :: r) = some rest) : ∃ q y ys, f d = some [q] ∧ q.fz = some y ∧ compGo (fun d => turnD (some [.val (.bool true)]) (f d)) r = some ys ∧ rest = y :: ys := by
  rcases zeF h with ⟨h1, h2⟩ | ⟨y, ys, h1, h2, h3⟩
  · rcases zcT h1 with ⟨t, _⟩ | ⟨_, _, _, _, _, q⟩
    · cases t
    · cases q
  · rcases zcT h1 with ⟨t, _⟩ | ⟨q, y', _, e1, e2, e3⟩
    · cases t
    · cases e3
      exact ⟨q, y, ys, e1, e2, h2, h3⟩
theorem zhF {elt t1 i1 i2 : Expr} {scope : Scope} {pos : Pos} {x y : Str} {py : Pos} {i j : Nat} {ee : X} (ok : CompOK ε scope [x, y] [i, j]) (he : Sound cx (compSc ε scope ([x, y].zip [i, j])) elt ee)
    {n cf A env F s ρ ad m cm} (H : Here cx ε n cf A env F s ρ ad m cm) {cl : List (Str × Addr)} (h1 : ∀ n c, cl.lookup n = some c → env.cells.lookup n = some c) (h2 : ∀ n, (n, NameKind.free) ∈ scope.names → (cl.lookup n).isSome)
    {Fa : AP} {sa : Shared} (sta : Step cx F s Fa sa) {items : List D} {I : Addr} {F1 : AP} {s1 : Shared} {fp wr : List Addr} {P : Nat → Value → Prop} {St : Nat → Heap → Prop} (J : Iter cx A Fa sa items I F1 s1 fp wr P St)
    {Da C : Addr} (frD : s.heap.get? Da = none) (frC : s.heap.get? C = none) (T : Still cx F1 s1.heap wr fp Da C)
    {ys0 : List Value} {k0 : Nat} (gD : s1.heap.get? Da = some (lobj ys0.toArray k0)) {m0 : SV} {v : Value} {d : D} (hns : s1.heap.Ns C m0) (hm0 : m0 x = some v) (hv : Rep cx.T F1 s1.heap v d) (hxy : x ≠ y)
    {l : List D} (hgo : compGo (fun d' => turnD (some [.val (.bool true)]) (ev cf ee ((ρ.set i (.val d)).set j (.val d')))) items = some l) (hlim : ys0.length + l.length ≤ lim) {R : Result → Shared → Prop}
    (hR : ∀ F' s' m' ys kk, Step cx F s F' s' → (∀ a, F1 a → F' a) → (∀ b o, b ≠ Da → b ≠ C → b ∉ wr → ¬ cx.X b → s1.heap.get? b = some o → s'.heap.get? b = some o ∧ (¬ F1 b → ¬ F' b)) → ¬ F' Da → ¬ F' C → s'.heap.get? Da = some (lobj (ys0 ++ ys).toArray kk) → RepL cx.T F' s'.heap ys l → s'.heap.Ns C m' → R (.ok .next) s') :
    codeAny (model cx.prog cx.w) A (.compLoop (.ListComp elt [⟨t1, i1, [], 0⟩, ⟨.Name y py, i2, [], 0⟩] scope pos) 1 (.ref I) (.ref Da) (compEnvC scope cl C env)) R s1 := by
  have st1 : Step cx F s F1 s1 := sta.trans J.st
  have hwn : ∀ b ∈ wr, s.heap.get? b = none := fun b hb => sta.fresh (sta.wd.newNotX (J.new b hb).1) (J.new b hb).1
  refine loop_in (InI cx F s F1 s1.heap wr Da C St (fun m => m x = some v) ys0 items l (compGo fun d' => turnD (some [.val (.bool true)]) (ev cf ee ((ρ.set i (.val d)).set j (.val d'))))) (fun k s' hI => ?_) items.length
    ⟨0, F1, [], [], k0, m0, Nat.zero_le _, rfl, st1, fun _ h => h, fun b o _ _ _ _ e => ⟨e, id⟩, J.s0, fun b hb => (J.new b hb).2, T.nD, T.nC, by rw [List.append_nil]; exact gD, .nil, hns, hm0, l, hgo, rfl⟩
  obtain ⟨q, F', ys, ds, kk, m', hq, rfl, st', hF, hnf, hst, hwr, hnD, hnC, hD, hys, hns', hm, rest, hgo', hrest⟩ := hI
  rcases Nat.lt_or_ge q items.length with hlt | hge
  · refine (J.W A H.bud.hd).item q s' _ _ hlt hst fun u h' tk hP hst' hk => ?_
    have st2 := st'.kept H.ok H.wd (wr := (· ∈ wr)) (fun b hb => ⟨hwn b hb, hwr b hb⟩) tk hk
    obtain ⟨d', hd', hr⟩ := J.item q u hP
    have hdrop : items.drop q = d' :: items.drop (q + 1) := by
      have h1 : items[q]? = some items[q] := List.getElem?_eq_getElem hlt
      rw [h1] at hd'
      cases hd'
      exact List.drop_eq_getElem_cons hlt
    rw [hdrop] at hgo'
    obtain ⟨r', y', ys', e1, e2, e4, e5⟩ := zi7 hgo'
    obtain ⟨ob, To, g1, g2, g3⟩ := J.ty _ _ hst'
    refine zdH (s := { s' with heap := h', toks := tk }) g1 g2 g3 ?_
    have keep1 : ∀ a o, F1 a → s1.heap.get? a = some o → h'.get? a = some o := fun a o f e => hk a o (fun hm => T.nw a hm f) (hnf a o (fun e => T.nD (e ▸ f)) (fun e => T.nC (e ▸ f)) (fun hm => T.nw a hm f) (T.xF a f) e).1
    have hnC' : h'.Ns C m' := hns'.at' fun o e => hk C o T.wC e
    refine za5 A F' { s' with heap := h', toks := tk } (compEnvC scope cl C env) C m' u d' [d'] H.ok st2.wd H.bud.hd rfl (fun z hz => lookup_relabel_local (ok.xl z (List.mem_cons_of_mem _ hz))) (by simp [compEnvC, relabel, ok.kind]) hnC' hnC (hr.mono hF keep1) rfl _ _ fun h3 tk3 vs3 hk3 hns3 hr3 => ?_
    have st3 : Step cx F s F' { s' with heap := h3, toks := tk3 } := st2.kept H.ok H.wd (wr := (· = C)) (fun b hb => by subst hb; exact ⟨frC, hnC⟩) tk3 hk3
    cases hr3 with
    | @cons u3 _ _ _ ru hr3 =>
    cases hr3
    rw [updL_in hm] at hns3
    have hv3 : Rep cx.T F' h3 v d := hv.mono hF fun a o f e => hk3 a o (fun e => T.nC (e ▸ f)) (keep1 a o f e)
    have H3 : Here cx (compSc ε scope ([x, y].zip [i, j])) n cf A (compEnvC scope cl C env) F' { s' with heap := h3, toks := tk3 } (setAll ρ [i, j] [d, d']) ad (updL m' [x, y] [v, u3]) cm :=
      ⟨H.ok, H.calls, H.bud, st3.wd, (H.step st3).env.comp ok h1 h2 T.xC hns3 rfl (.cons hv3 (.cons ru .nil))⟩
    refine he.ev n cf A _ F' _ _ ad _ cm H3 r' e1 _ _ fun v5 F5 s5 st5 q5 => ?_
    obtain ⟨F6, st6, _, r6⟩ := st5.fz H.ok H3.wd q5 e2
    have hD3 : h3.get? Da = some (lobj (ys0 ++ ys).toArray kk) := hk3 Da _ T.cd.symm (hk Da _ T.wD hD)
    have hD5 := st6.keep Da _ hD3 T.xD
    have hn6 : ¬ F6 Da := st6.notF hnD hD3
    obtain ⟨oC, eC⟩ : ∃ o, h3.get? C = some o := by obtain ⟨o, _, _, e, _⟩ := hns3; exact ⟨o, e⟩
    have hlen : (ys0 ++ ys).length ≤ lim := by
      rw [List.length_append]
      refine Nat.le_trans (Nat.add_le_add_left ?_ _) hlim
      rw [hys.length, hrest, List.length_append]
      exact Nat.le_add_right _ _
    refine wpAny_list_append_plain ⟨kk, hD5⟩ (fun h7 hl7 sb7 => ?_) (by rw [List.size_toArray]; exact zba hlen)
    obtain ⟨k7, hl7⟩ := hl7
    have e7 : (ys0 ++ ys).toArray.push v5 = (ys0 ++ (ys ++ [v5])).toArray := by simp
    rw [e7] at hl7
    have st7 : Step cx F s F6 { s5 with heap := h7, toks := s5.toks } := (st3.trans st6).kept H.ok H.wd (wr := (· = Da)) (fun b hb => by subst hb; exact ⟨frD, hn6⟩) s5.toks fun a o h e => (sb7.2 a h).trans e
    have keep7 : ∀ a o, F6 a → s5.heap.get? a = some o → h7.get? a = some o := fun a o f e => (sb7.2 a fun e => hn6 (e ▸ f)).trans e
    have keep3 : ∀ a o, F' a → s'.heap.get? a = some o → h3.get? a = some o := fun a o f e => hk3 a o (fun e => hnC (e ▸ f)) (hk a o (fun hm => hwr a hm f) e)
    have thru : ∀ b o, b ≠ Da → b ≠ C → ¬ cx.X b → h'.get? b = some o → h7.get? b = some o := fun b o b1 b2 bx e => (sb7.2 b b1).trans (st6.keep b o (hk3 b o b2 e) bx)
    refine ⟨items.length - (q + 1), Nat.sub_lt_sub_left hlt (Nat.lt_succ_self q), q + 1, F6, ys ++ [v5], ds ++ [y'], k7, _, hlt, rfl, st7, fun a h => st6.sub a (hF a h), fun b o b1 b2 b3 bx e => ?_, ?_, fun b hb => ?_, hn6, st6.notF hnC eC, hl7, ?_, (hns3.at' fun o e => st6.keep _ o e T.xC).sameBut sb7 T.cd, ?_, ys', e4, by rw [hrest, e5, List.append_assoc]; rfl⟩
    · obtain ⟨a1, a2⟩ := hnf b o b1 b2 b3 bx e
      have a3 := hk b o b3 a1
      exact ⟨thru b o b1 b2 bx a3, fun hf => st6.notF (a2 hf) (hk3 b o b2 a3)⟩
    · refine (J.W A H.bud.hd).frame _ _ _ hst' fun b hb o e => ?_
      rcases T.deps b hb with h | h
      · exact thru b o (fun e => T.wD (e ▸ h)) (fun e => T.wC (e ▸ h)) (T.xw b h) e
      · exact thru b o (fun e => T.nD (e ▸ h)) (fun e => T.nC (e ▸ h)) (T.xF b h) e
    · exact st6.notF (hwr b hb) (hk3 b _ (fun e => T.wC (e ▸ hb)) (by rw [J.one b hb]; exact g1))
    · exact ((st6.repL H3.wd (hys.mono (fun _ h => h) keep3)).append (.cons r6 .nil)).mono (fun _ h => h) keep7
    · show (if x = y then _ else if x = x then some v else m' x) = some v
      rw [if_neg hxy, if_pos rfl]
  · have ej : q = items.length := Nat.le_antisymm hq hge
    subst ej
    rw [List.drop_length] at hgo'
    cases hgo'
    refine (J.W A H.bud.hd).done s' _ _ hst fun h' tk hk => ?_
    have st2 := st'.kept H.ok H.wd (wr := (· ∈ wr)) (fun b hb => ⟨hwn b hb, hwr b hb⟩) tk hk
    rw [List.append_nil] at hrest
    subst hrest
    exact hR F' _ m' ys kk st2 hF (fun b o b1 b2 b3 bx e => ⟨hk b o b3 (hnf b o b1 b2 b3 bx e).1, (hnf b o b1 b2 b3 bx e).2⟩) hnD hnC (hk Da _ T.wD hD) (hys.mono (fun _ h => h) fun a o f e => hk a o (fun hm => hwr a hm f) e) (hns'.at' fun o e => hk C o T.wC e)
theorem zhI {f : D → Option (List D)} {d : D} {r rest : List D} (h : flatGo f (d :: r) = some rest) : ∃ a b, f d = some a ∧ flatGo f r = some b ∧ rest = a ++ b := by
  unfold flatGo at h
  cases e : f d with
  | none => rw [e] at h; cases h
  | some a =>
    rw [e] at h
    obtain ⟨b, e2, e3⟩ := Option.map_eq_some_iff.mp h
    exact ⟨a, b, rfl, e2, e3.symm⟩
noncomputable def innerL (cf : CfT) (i : Nat) (jt : X) (j : Nat) (ee : X) (ρ : List Slot) (d : D) : Option (List D) :=
  match evI cf jt (ρ.set i (.val d)) with
  | some its => compGo (fun d' => turnD (some [.val (.bool true)]) (ev cf ee ((ρ.set i (.val d)).set j (.val d')))) its
  | none => none
set_option genInjectivity false in
structure CompY (cx : XCx) (ε : Sc) (elt i1 i2 : Expr) (scope : Scope) (x y : Str) (i j : Nat) (it jt ee : X) : Prop where
  hi1 : SoundI cx ε i1 it
  ok : CompOK ε scope [x, y] [i, j]
  hi2 : SoundI cx (compSc ε scope ([x].zip [i])) i2 jt
  he : Sound cx (compSc ε scope ([x, y].zip [i, j])) elt ee
  hs1 : ∀ env x, foldedSetIterable i1 env x = pure x
  hs2 : ∀ env x, foldedSetIterable i2 env x = pure x
theorem CompOK.one {scope : Scope} {x y : Str} {i j : Nat} (ok : CompOK ε scope [x, y] [i, j]) : CompOK ε scope [x] [i] where
  kind := ok.kind
  nocell := ok.nocell
  names := ok.names
  xl := fun z hz => ok.xl z (by rw [List.mem_singleton.mp hz]; exact List.mem_cons_self)
  free := ok.free
  apart := fun z k hz hm => ok.apart z k hz (by rw [List.mem_singleton.mp hm]; exact List.mem_cons_self)
  xn := List.nodup_cons.mpr ⟨List.not_mem_nil, List.nodup_nil⟩
  isn := List.nodup_cons.mpr ⟨List.not_mem_nil, List.nodup_nil⟩
  len := rfl
theorem zhN {elt i1 i2 : Expr} {scope : Scope} {pos cpos : Pos} {x y : Str} {px py : Pos} {i j : Nat} {it jt ee : X} (Y : CompY cx ε elt i1 i2 scope x y i j it jt ee)
    {n cf A env F s ρ ad m cm} (H : Here cx ε n cf A env F s ρ ad m cm) {items l : List D} (hit : evI cf it ρ = some items) (hl : flatGo (innerL cf i jt j ee ρ) items = some l) (hlim : l.length ≤ lim)
    {use : Option (Value → Sem Unit)} {Q E : VP}
    (hRR : ∀ Da C F' s' m', Step cx F s F' s' → RepR cx F' s.heap s'.heap (.ref Da) (.own l) → s'.heap.Ns C m' → s.heap.get? C = none → ¬ F' C → C ≠ Da → compPost (model cx.prog cx.w) A E use Q (.ref Da) C (.ok .next) s') :
    wpAny (model cx.prog cx.w) A (comprehension (.ListComp elt [⟨.Name x px, i1, [], 0⟩, ⟨.Name y py, i2, [], 0⟩] scope pos) scope env cpos (newList []) false (eval i1 env) use) Q E s := by
  have ok := Y.ok
  have hxy : x ≠ y := fun e => by
    have := List.nodup_cons.mp ok.xn
    exact this.1 (by rw [e]; exact List.mem_cons_self)
  obtain ⟨cl, hclos, h1, h2⟩ := H.env.closure ok
  refine wpAny_comprehension_free rfl (Y.hs1 env) hclos ok.kind ok.names (Y.hi1 n cf A env F s ρ ad m cm H items hit _ _ fun I F1 s1 fp wr P St J => ?_)
  refine wpAny_newObj_type ?_
  refine (wpAny_newFunctionEnv ok.nocell (by intro y hy; simp at hy) (fun h₁ hns₁ hsb₁ => ?_) ok.kind)
  dsimp only at hns₁ hsb₁ ⊢
  generalize hH2 : s1.heap.push (lobj [].toArray 0) = H2 at hns₁ hsb₁ ⊢
  generalize hD : s1.heap.objs.size = Da
  generalize hCe : H2.objs.size = C at hns₁ hsb₁
  have hCD : C = Da + 1 := by rw [← hCe, ← hD, ← hH2, Heap.size_push]
  have hDC : C ≠ Da := by rw [hCD]; exact Nat.succ_ne_self Da
  have fr : ∀ a, Da ≤ a → s1.heap.get? a = none := fun a ha => by
    cases e : s1.heap.get? a with
    | none => rfl
    | some o' => exact absurd (hD ▸ Heap.lt_size e) (Nat.not_lt.mpr ha)
  have lt1 : ∀ b o, s1.heap.get? b = some o → b ≠ C ∧ b ≠ Da := fun b o e => ⟨Nat.ne_of_lt (by rw [hCD]; exact Nat.lt_succ_of_lt (hD ▸ Heap.lt_size e)), Nat.ne_of_lt (hD ▸ Heap.lt_size e)⟩
  have old : ∀ b o, s1.heap.get? b = some o → h₁.get? b = some o := fun b o e => hsb₁.extBut b o (lt1 b o e).1 (Heap.get?_push_of_some _ (hH2 ▸ Heap.get?_push_of_some _ e))
  have hacc : h₁.get? Da = some (lobj [].toArray 0) := hsb₁.extBut _ _ hDC.symm (Heap.get?_push_of_some _ (by rw [← hH2, ← hD]; exact Heap.get?_push_size _ rfl))
  have frD := fr Da (Nat.le_refl _)
  have frC := fr C (by rw [hCD]; exact Nat.le_succ Da)
  have xD : ¬ cx.X Da := J.st.wd.newNotX frD
  have xC : ¬ cx.X C := J.st.wd.newNotX frC
  have frD0 : s.heap.get? Da = none := J.st.fresh xD frD
  have frC0 : s.heap.get? C = none := J.st.fresh xC frC
  obtain ⟨oI, TI, gI, _, _⟩ := J.ty 0 _ J.s0
  have hwI : ∀ b ∈ wr, b ≠ C ∧ b ≠ Da := fun b hb => by rw [J.one b hb]; exact lt1 I _ gI
  have xwr : ∀ b ∈ wr, ¬ cx.X b := fun b hb h => by
    obtain ⟨o, e⟩ := H.wd.xex b h
    rw [(J.new b hb).1] at e; cases e
  have st1 : Step cx F s F1 { s1 with heap := h₁, toks := s1.toks + ([] : List (Str × Value)).length } := J.st.trans (Step.grown H.ok J.st.wd _ old)
  have nD1 := J.st.wd.newNotF frD
  have nC1 := J.st.wd.newNotF frC
  have oC1 : ∃ o, h₁.get? C = some o := by obtain ⟨o, _, _, e, _⟩ := hns₁; exact ⟨o, e⟩
  have T : Still cx F1 h₁ wr fp Da C := ⟨hDC, xD, xC, nD1, nC1, fun h => (hwI Da h).2 rfl, fun h => (hwI C h).1 rfl, xwr, J.st.wd.nx, fun b hb => (J.new b hb).2, ⟨_, hacc⟩, oC1, J.deps, st1.wd.lt⟩
  have loop : ∀ s₃ : Shared, s₃ = { s1 with heap := h₁, toks := s1.toks + ([] : List (Str × Value)).length } →
      codeAny (model cx.prog cx.w) A (.compLoop (.ListComp elt [⟨.Name x px, i1, [], 0⟩, ⟨.Name y py, i2, [], 0⟩] scope pos) 0 (.ref I) (.ref Da) (compEnvC scope cl C env)) (compPost (model cx.prog cx.w) A E use Q (.ref Da) C) s₃ := by
    rintro s₃ rfl
    refine zjX Y.hs2 (InI cx F s F1 h₁ wr Da C St (fun _ => True) [] items l (flatGo (innerL cf i jt j ee ρ))) (fun k s' hI => ?_) items.length
      ⟨0, F1, [], [], 0, _, Nat.zero_le _, rfl, st1, fun _ h => h, fun b o _ _ _ _ e => ⟨e, id⟩, (J.W A H.bud.hd).frame _ _ _ J.s0 fun b _ o e => old b o e, fun b hb => (J.new b hb).2, nD1, nC1, hacc, .nil, hns₁, trivial, l, hl, rfl⟩
    obtain ⟨q, F', ys, ds, kk, m', hq, rfl, st', hF, hnf, hst, hwr, hnD, hnC, hD', hys, hns', _, rest, hgo, hrest⟩ := hI
    rw [List.nil_append] at hD'
    rcases Nat.lt_or_ge q items.length with hlt | hge
    · refine (J.W A H.bud.hd).item q s' _ _ hlt hst fun u h' tk hP hst' hk => ?_
      have st2 := st'.kept H.ok H.wd (wr := (· ∈ wr)) (fun b hb => ⟨(J.new b hb).1, hwr b hb⟩) tk hk
      obtain ⟨d, hd, hr⟩ := J.item q u hP
      have hdrop : items.drop q = d :: items.drop (q + 1) := by
        have h1 : items[q]? = some items[q] := List.getElem?_eq_getElem hlt
        rw [h1] at hd
        cases hd
        exact List.drop_eq_getElem_cons hlt
      rw [hdrop] at hgo
      obtain ⟨l2, rest', ea, hgo', er⟩ := zhI hgo
      obtain ⟨its, ei, eg⟩ : ∃ its, evI cf jt (ρ.set i (.val d)) = some its ∧ compGo (fun d' => turnD (some [.val (.bool true)]) (ev cf ee ((ρ.set i (.val d)).set j (.val d')))) its = some l2 := by
        unfold innerL at ea
        cases e : evI cf jt (ρ.set i (.val d)) with
        | none => rw [e] at ea; cases ea
        | some its => rw [e] at ea; exact ⟨its, rfl, ea⟩
      obtain ⟨ob, To, g1, g2, g3⟩ := J.ty _ _ hst'
      refine zdH (s := { s' with heap := h', toks := tk }) g1 g2 g3 ?_
      have keep1 : ∀ a o, F1 a → s1.heap.get? a = some o → h'.get? a = some o := fun a o f e => hk a o (fun hm => T.nw a hm f) (hnf a o (fun e => T.nD (e ▸ f)) (fun e => T.nC (e ▸ f)) (fun hm => T.nw a hm f) (T.xF a f) (old a o e)).1
      have hnC' : h'.Ns C m' := hns'.at' fun o e => hk C o T.wC e
      refine za5 A F' { s' with heap := h', toks := tk } (compEnvC scope cl C env) C m' u d [d] H.ok st2.wd H.bud.hd rfl (fun z hz => lookup_relabel_local (ok.one.xl z hz)) (by simp [compEnvC, relabel, ok.kind]) hnC' hnC (hr.mono hF keep1) rfl _ _ fun h3 tk3 vs3 hk3 hns3 hr3 => ?_
      have st3 : Step cx F s F' { s' with heap := h3, toks := tk3 } := st2.kept H.ok H.wd (wr := (· = C)) (fun b hb => by subst hb; exact ⟨frC0, hnC⟩) tk3 hk3
      cases hr3 with
      | @cons u3 _ _ _ ru hr3 =>
      cases hr3
      have H3 : Here cx (compSc ε scope ([x].zip [i])) n cf A (compEnvC scope cl C env) F' { s' with heap := h3, toks := tk3 } (setAll ρ [i] [d]) ad (updL m' [x] [u3]) cm :=
        ⟨H.ok, H.calls, H.bud, st3.wd, (H.step st3).env.comp ok.one h1 h2 xC hns3 rfl (.cons ru .nil)⟩
      have hD3 : h3.get? Da = some (lobj ys.toArray kk) := hk3 Da _ hDC.symm (hk Da _ T.wD hD')
      obtain ⟨oC, eC⟩ : ∃ o, h3.get? C = some o := by obtain ⟨o, _, _, e, _⟩ := hns3; exact ⟨o, e⟩
      have keep3 : ∀ a o, F' a → s'.heap.get? a = some o → h3.get? a = some o := fun a o f e => hk3 a o (fun e => hnC (e ▸ f)) (hk a o (fun hm => hwr a hm f) e)
      refine Y.hi2 n cf A _ F' _ _ ad _ cm H3 its ei _ _ fun I2 F4 s4 fp2 wr2 P2 St2 J2 => ?_
      have st4 := J2.st
      have hD4 := st4.keep Da _ hD3 xD
      have nD4 : ¬ F4 Da := st4.notF hnD hD3
      have nC4 : ¬ F4 C := st4.notF hnC eC
      have w2 : ∀ b ∈ wr2, h3.get? b = none := fun b hb => (J2.new b hb).1
      have T2 : Still cx F4 s4.heap wr2 fp2 Da C := ⟨hDC, xD, xC, nD4, nC4, fun h => (by have := w2 Da h; rw [hD3] at this; cases this), fun h => (by have := w2 C h; rw [eC] at this; cases this), fun b hb => st3.wd.newNotX (w2 b hb), st4.wd.nx, fun b hb => (J2.new b hb).2, ⟨_, hD4⟩, ⟨_, st4.keep C _ eC xC⟩, J2.deps, st4.wd.lt⟩
      have inn := zhF (t1 := .Name x px) (i1 := i1) (i2 := i2) (pos := pos) (py := py) (R := fun r s' => match r with
          | .ok _ => ∃ m, m < items.length - q ∧ InI cx F s F1 h₁ wr Da C St (fun _ => True) [] items l (flatGo (innerL cf i jt j ee ρ)) m s'
          | .error e => cameBackBy (model cx.prog cx.w) A (compEnvC scope cl C env) (notedBy (model cx.prog cx.w) A (compEnvC scope cl C env) fun e s' => compPost (model cx.prog cx.w) A E use Q (.ref Da) C (.error e) s') e s')
        ok Y.he H h1 h2 st3 J2 frD0 frC0 T2 hD4 (hns3.at' fun o e => st4.keep _ o e xC) (show updL m' [x] [u3] x = some u3 from if_pos rfl) (st4.rep H3.wd ru) hxy eg (by
          rw [hys.length]
          refine Nat.le_trans ?_ hlim
          rw [hrest, er, List.length_append, List.length_append, ← Nat.add_assoc]
          exact Nat.le_add_right _ _) fun F5 s5 m5 ys2 k5 st5 hF5 hnf5 nD5 nC5 hD5 hy5 hns5 => by
          have thru : ∀ b o, b ≠ Da → b ≠ C → ¬ cx.X b → h3.get? b = some o → s5.heap.get? b = some o ∧ (¬ F' b → ¬ F5 b) := fun b o b1 b2 bx e => by
            have hb2 : b ∉ wr2 := fun h => by have := w2 b h; rw [e] at this; cases this
            obtain ⟨a1, a2⟩ := hnf5 b o b1 b2 hb2 bx (st4.keep b o e bx)
            exact ⟨a1, fun h => a2 (st4.notF h e)⟩
          have hys5 : RepL cx.T F5 s5.heap ys ds := hys.mono (fun a h => hF5 a (st4.sub a h)) fun a o f e => (thru a o (fun e => hnD (e ▸ f)) (fun e => hnC (e ▸ f)) (st'.wd.nx a f) (keep3 a o f e)).1
          refine ⟨items.length - (q + 1), Nat.sub_lt_sub_left hlt (Nat.lt_succ_self q), q + 1, F5, ys ++ ys2, ds ++ l2, k5, m5, hlt, rfl, st5, fun a h => hF5 a (st4.sub a (hF a h)), fun b o b1 b2 b3 bx e => ?_, ?_, fun b hb => ?_, nD5, nC5, hD5, hys5.append hy5, hns5, trivial, rest', hgo', by rw [hrest, er, List.append_assoc]⟩
          · obtain ⟨a1, a2⟩ := hnf b o b1 b2 b3 bx e
            obtain ⟨c1, c2⟩ := thru b o b1 b2 bx (hk3 b o b2 (hk b o b3 a1))
            exact ⟨c1, fun h => c2 (a2 h)⟩
          · refine (J.W A H.bud.hd).frame _ _ _ hst' fun b hb o e => ?_
            rcases T.deps b hb with h | h
            · exact (thru b o (fun e => T.wD (e ▸ h)) (fun e => T.wC (e ▸ h)) (xwr b h) (hk3 b o (fun e => T.wC (e ▸ h)) e)).1
            · exact (thru b o (fun e => T.nD (e ▸ h)) (fun e => T.nC (e ▸ h)) (T.xF b h) (hk3 b o (fun e => T.nC (e ▸ h)) e)).1
          · exact (thru b _ (hwI b hb).2 (hwI b hb).1 (xwr b hb) (hk3 b _ (hwI b hb).1 (by rw [J.one b hb]; exact g1))).2 (hwr b hb)
      exact zju inn ((J2.W A H.bud.hd).self 0 _ _ _ J2.s0 inn)
    · have ej : q = items.length := Nat.le_antisymm hq hge
      subst ej
      rw [List.drop_length] at hgo
      cases hgo
      refine (J.W A H.bud.hd).done s' _ _ hst fun h' tk hk => ?_
      have st2 := st'.kept H.ok H.wd (wr := (· ∈ wr)) (fun b hb => ⟨(J.new b hb).1, hwr b hb⟩) tk hk
      rw [List.append_nil] at hrest
      subst hrest
      exact hRR Da C F' _ m' st2 (.own frD0 hnD xD (hk Da _ T.wD hD') (by rw [hys.length]; exact hlim) (hys.mono (fun _ h => h) fun a o f e => hk a o (fun hm => hwr a hm f) e)) (hns'.at' fun o e => hk C o T.wC e) frC0 hnC hDC
  exact codeAny_compStart_list (loop _ rfl) ((J.W A H.bud.hd).self 0 _ _ _ ((J.W A H.bud.hd).frame _ _ _ J.s0 fun b _ o e => old b o e) (loop _ rfl))
end
end Mine
end
section
open PySem PySem.Calls PyProof.Rows PySem.Builtin.Str PySem.SeqAt PySem.AutoSeq1 PySem.MeetsSeq PySem.MeetsSeq2 PySem.MeetsSeq3 PySem.SeqRoads2
namespace Mine
inductive StrVs : List Value → List (List Nat) → Prop
  | nil : StrVs [] []
  | cons {l : List Nat} {t : Tok} {vs : List Value} {ls : List (List Nat)} : StrVs vs ls → StrVs (.str ⟨l.toArray⟩ t :: vs) (l :: ls)
theorem eqb_str (A : Around) (s : Shared) (a b : List Nat) (t u : Tok) : EqAt A s (.str ⟨a.toArray⟩ t) (.str ⟨b.toArray⟩ u) (decide (a = b)) := by
  have h := EqAt.str_str (A := A) (s := s) ⟨a.toArray⟩ t ⟨b.toArray⟩ u
  have e : ((⟨a.toArray⟩ : PySem.Str) == ⟨b.toArray⟩) = decide (a = b) := by
    by_cases q : a = b
    · subst q; simp
    · rw [decide_eq_false q, beq_eq_false_iff_ne]
      intro h; exact q (by simpa using h)
  rwa [e] at h
section
variable {l b : Addr} {vs ws : List Value} {n n2 : Nat}
end
end Mine
end
section
open PySem PySem.Calls PyProof.Rows PySem.Builtin.Str
namespace Mine
theorem zjt {T : NAd} {F : AP} {h : Heap} {l : List D} {ls : List (List Nat)} {vs : List Value} (e : toStrs l = some ls) (q : RepL T F h vs l) : StrVs vs ls := by
  have e' := zdJ e
  subst e'
  clear e
  induction ls generalizing vs with
  | nil => cases q; exact .nil
  | cons x ls ih => cases q with | cons a b => cases a with | str t p z => exact .cons (ih b)
section
variable {cx : XCx} {F : AP} {h0 : Heap} {prog : Program} {w : World} {A : Around} {E : VP} {s : Shared}
variable {nm lp : String} {op : CmpOp} {better : D → D → Option Bool}
end
section
variable {cx : XCx} {nm lp : String} {op : CmpOp} {better : D → D → Option Bool}
end
section
variable {cx : XCx} {ε : Sc}
end
section
variable {cx : XCx} {ε : Sc}
end
section
variable {cx : XCx} {ε : Sc}
end
end Mine
end
section
open PySem PySem.Calls PyProof.Rows PySem.Builtin.Str PySem.SeqAt PySem.AutoSeq1 PySem.MeetsSeq PySem.MeetsSeq2 PySem.MeetsSeq3 PySem.SeqRoads2
namespace Mine
noncomputable def isText (s : List Nat) : Value → Bool
  | .str x _ => decide (x = ⟨s.toArray⟩)
  | _ => false
theorem zh4 {vs : List Value} {ls : List (List Nat)} (h : StrVs vs ls) : ∀ v ∈ vs, ∃ (l : List Nat) (t : Tok), v = .str ⟨l.toArray⟩ t := by
  induction h with
  | nil => intro v hv; cases hv
  | cons h ih =>
    intro v hv
    rcases List.mem_cons.mp hv with rfl | hv
    · exact ⟨_, _, rfl⟩
    · exact ih v hv
section
variable {cx : XCx} {ε : Sc}
end
end Mine
end
section
open PySem PySem.Calls PyProof.Rows PySem.Builtin.Str PySem.SeqAt
namespace Mine
section
variable {prog : Program} {w : World} {A : Around} {E : VP} {s : Shared}
end
section
variable {prog : Program} {w : World} {A : Around} {E : VP} {s : Shared}
end
end Mine
end
section
open PySem PySem.Calls PyProof.Rows PySem.Builtin.Str PySem.SeqAt
open AutoSeq1 (wpAny_loadPart')
namespace Mine
section
variable {prog : Program} {w : World} {A : Around} {E : VP} {s : Shared}
end
end Mine
end
section
open PySem PySem.Calls PyProof.Rows PySem.Builtin.Str
namespace Mine
section
variable {prog : Program} {w : World} {A : Around} {R : Result → Shared → Prop} {E : VP} {s : Shared}
end
section
variable {cx : XCx} {ε : Sc}
end
end Mine
end
section
open PySem PySem.Calls PyProof.Rows PySem.Builtin.Str
open AutoSeq1 (wpAny_loadPart')
namespace Mine
section
variable {prog : Program} {w : World} {A : Around} {E : VP} {s : Shared}
end
section
variable {cx : XCx} {ε : Sc}
end
end Mine
end
section
open PySem PySem.Calls PyProof.Rows PySem.Builtin.Str
namespace Mine
section
variable {cx : XCx} {ε : Sc} {n : Nat} {cf : CfT} {A : Around} {env : Env} {F F' : AP} {s s' : Shared} {ρ ρ' : List Slot} {ad : NAd} {m cm : SV} {i : Nat} {l : List D}
end
section
variable {cx : XCx} {ε : Sc}
end
end Mine
end
section
open PySem PySem.Calls PyProof.Rows PySem.Builtin.Str PySem.SeqAt PySem.AutoSeq1 PySem.MeetsSeq PySem.MeetsSeq2 PySem.MeetsSeq3 PySem.SeqRoads2
namespace Mine
inductive Comp3I (cf : CfT) (i : Nat) (it : X) (j : Nat) (jt ee : X) (ρ : List Slot) : R → Prop
  | mk {items l : List D} : evI cf it ρ = some items → flatGo (innerL cf i jt j ee ρ) items = some l → l.length ≤ lim → Comp3I cf i it j jt ee ρ (.own l)
theorem zke {cf : CfT} {i j : Nat} {it jt e : X} {ρ : List Slot} {r : R} (h : ev cf (.comp3 i it j jt e) ρ = some [r]) : Comp3I cf i it j jt e ρ r := by
  replace h := (zav _).symm.trans h
  cases e1 : itsR (ev cf it ρ) with
  | none => rw [e1] at h; cases h
  | some items =>
    rw [e1] at h
    replace h : (match flatGo (innerL cf i jt j e ρ) items with | some l => if l.length ≤ lim then some [R.own l] else none | none => none) = some [r] := h
    cases e2 : flatGo (innerL cf i jt j e ρ) items with
    | none => rw [e2] at h; cases h
    | some l =>
      rw [e2] at h
      obtain ⟨hl, e3⟩ := zcb h
      cases e3
      exact .mk e1 e2 hl
section
variable {cx : XCx} {ε : Sc}
theorem zga {elt i1 i2 : Expr} {scope : Scope} {pos : Pos} {x y : Str} {px py : Pos} {i j : Nat} {it jt ee : X} (Y : CompY cx ε elt i1 i2 scope x y i j it jt ee) :
    Sound cx ε (.ListComp elt [⟨.Name x px, i1, [], 0⟩, ⟨.Name y py, i2, [], 0⟩] scope pos) (.comp3 i it j jt ee) := by
  refine Sound.ofE ?_ fun _ => rfl
  intro n cf A env F s ρ ad m cm H r hr Q E hQ
  cases zke hr with
  | mk e1 e2 hl =>
    rw [eval_ListComp]
    refine zhN (use := none) Y H e1 e2 hl fun Da C F' s' m' st q hn frC nC hne => ?_
    refine ⟨m', hn, fun h'' sb => ?_⟩
    have st2 : Step cx F s F' { s' with heap := h'' } := st.kept H.ok H.wd (wr := (· = C)) (fun b hb => by subst hb; exact ⟨frC, nC⟩) s'.toks fun a o h e => (sb.2 a h).trans e
    refine hQ _ F' _ st2 ?_
    cases q with
    | own lo nf nx g z q => exact .own lo nf nx ((sb.2 Da hne.symm).trans g) z (q.mono (fun _ h => h) fun a o f e => (sb.2 a fun e => nC (e ▸ f)).trans e)
inductive CntI : List D → R → Prop
  | mk {l : List D} {s : List Nat} {ls : List (List Nat)} : toStrs l = some ls → CntI [.list l, .str s] (.val (.int (ls.count s : Nat)))
theorem zi3 {ds : List D} {r : R} (he : opCount ds = some r) : CntI ds r := by
  rcases ds with _ | ⟨a, _ | ⟨b, t⟩⟩
  · cases he
  · cases a <;> cases he
  cases a <;> try (cases he; done)
  cases b <;> try (cases he; done)
  rename_i l s
  rcases t with _ | ⟨c, t⟩ <;> try (cases he; done)
  replace he : (match toStrs l with | some ls => some (R.val (.int (ls.count s))) | none => none) = some r := he
  cases e : toStrs l with
  | none => rw [e] at he; cases he
  | some ls => rw [e] at he; cases he; exact .mk e
theorem zkf {sx : List Nat} {vs : List Value} {ls : List (List Nat)} (h : StrVs vs ls) : vs.countP (isText sx) = ls.count sx := by
  induction h with
  | nil => rfl
  | @cons l t vs ls _ ih =>
    have e : isText sx (.str ⟨l.toArray⟩ t) = (l == sx) := by
      show decide _ = _
      by_cases q : l = sx
      · subst q; simp
      · rw [decide_eq_false fun h => q (by simpa using h), beq_eq_false_iff_ne.mpr q]
    rw [List.countP_cons, List.count_cons, ih, e]
theorem zjJ : OpOK cx .count (fun vs => call (.builtin "list.count") vs) := by
  intro n A F s vs ds r ok bud w q he Q E hQ
  cases zi3 (show opCount ds = some r from he) with
  | @mk l sx ls hs =>
  obtain ⟨x, y, rfl, qa, qb⟩ := q.two
  obtain ⟨a, vs, k, rfl, nx, g, z, ql⟩ := qa.list_inv w
  obtain ⟨u, rfl, _, _⟩ := qb.str_inv
  have sv := zjt hs ql
  refine call_meets PySem.F.slot_list_count ⟨_, g, rfl⟩ PySem.F.entry_list_count (PySem.F.args_list_count_2 _ _) (list_countAt a vs.toArray k none #[] (.str ⟨sx.toArray⟩ u) (isText sx)) ⟨g, fun v hv => ?_, ?_⟩
  · obtain ⟨l', t', rfl⟩ := zh4 sv v (by simpa using hv)
    have := eqb_str A.in1 s l' sx t' u
    have e : isText sx (.str ⟨l'.toArray⟩ t') = decide (l' = sx) := by
      show decide _ = _
      by_cases q : l' = sx
      · subst q; simp
      · rw [decide_eq_false q, decide_eq_false fun h => q (by simpa using h)]
    rw [e]; exact this
  · have e : vs.toArray.toList.countP (isText sx) = ls.count sx := zkf sv
    rw [e]
    exact hQ _ F _ ((Step.refl w).toks _) (.val (.int _ _))
theorem m_count {o : Expr} {apos pos : Pos} {es : List Expr} {xo x : X} (hl : (apos.endLine == pos.line) = true) (hb : plainBase o = true) (hn : es.length < 30) (h0 : Sound cx ε o xo) (h : SoundL cx ε es x false) : Sound cx ε (.Call (.Attribute o "count" apos) es [] pos) (.op .count (.cons xo x)) := by
  refine Sound.ofE ?_ fun _ => rfl
  intro n cf A env F s ρ ad m cm H res he Q E hQ
  obtain ⟨rs, e1, e2⟩ := ev_op he
  obtain ⟨r0, rs', e3, e4, rfl⟩ := zax e1
  refine zch hb hl hn (zbf h) ?_
  refine h0.ev n cf A env F s ρ ad m cm H r0 e3 _ _ fun v F' s' st q => ?_
  obtain ⟨l, hl'⟩ : ∃ l, r0.ds = .list l := by
    have e2' : opCount (r0.ds :: rs'.map R.ds) = some res := e2
    generalize r0.ds = d at e2' ⊢
    cases d <;> first | exact ⟨_, rfl⟩ | cases e2'
  have qb := q.brep
  rw [hl'] at qb
  obtain ⟨a, vs, k, rfl, nx, g, z, ql⟩ := qb.list_inv st.wd
  refine getMethod_builtin (T := "list") ⟨_, g, rfl⟩ PySem.F.plainAttrs_list PySem.F.slot_list_count PySem.F.type_list_count (fun a e => ⟨_, by cases e; exact g, rfl⟩) ?_
  refine Calls.callWith_builtin (zbf h) (zbu h (H.step st) e4 fun vs F'' s'' st' qs => ?_)
  exact zjJ n A F'' s'' (_ :: vs) _ res H.ok H.bud st'.wd (.cons (st'.brep st.wd q.brep) qs.brep) e2 _ _ (hQ.after (st.trans st'))
end
end Mine
end
section
open PySem PySem.Calls PyProof.Rows PySem.Builtin.Str
namespace Mine
open Classical in
noncomputable def guard (P : (Nat → List D → Option D) → List Slot → Prop) : S := .sem fun cf ρ => if P cf ρ then some (ρ, .next) else none
theorem ziP {P : (Nat → List D → Option D) → List Slot → Prop} {cf : CfT} {ρ ρ' : List Slot} {o : Out} (h : ex cf (guard P) ρ = some (ρ', o)) : P cf ρ ∧ ρ' = ρ ∧ o = .next := by
  replace h := (ziT cf).symm.trans h
  by_cases p : P cf ρ
  · cases (if_pos p).symm.trans h; exact ⟨p, rfl, rfl⟩
  · cases (if_neg p).symm.trans h
theorem zj8 {P : (Nat → List D → Option D) → List Slot → Prop} {cf : CfT} {ρ : List Slot} (p : P cf ρ) : ex cf (guard P) ρ = some (ρ, .next) := (ziT cf).trans (if_pos p)
inductive CacheL (prog : Program) (w : World) (T : NAd) (dom : List (List Nat)) (cv : List Nat → Option D) (F : AP) (h : Heap) (kvs : List (Str × Value)) : Prop
  | mk (g : h.DictOf (PySem.strKind prog w) (T 2) kvs) (q : ∀ x ∈ kvs, ∃ l d, x.1 = ⟨l.toArray⟩ ∧ l ∈ dom ∧ cv l = some d ∧ Rep T F h x.2 d)
noncomputable def CacheAt (prog : Program) (w : World) (T : NAd) (dom : List (List Nat)) (cv : List Nat → Option D) (F : AP) (h : Heap) : Prop := ∃ kvs, CacheL prog w T dom cv F h kvs
noncomputable def InC (cx : XCx) (dom : List (List Nat)) (cv : List Nat → Option D) (F : AP) (h : Heap) (k : List Nat) : Prop := ∃ kvs, CacheL cx.prog cx.w cx.T dom cv F h kvs ∧ ∃ x ∈ kvs, x.1 = ⟨k.toArray⟩
set_option genInjectivity false in
structure CacheP where
  tf : Nat
  qm : List Nat
  dom : List (List Nat)
set_option genInjectivity false in
structure CacheG (cx : XCx) (P : CacheP) where
  cv : List Nat → Option D
  dl : P.dom.length ≤ lim
  xt : cx.X (cx.T 2)
  nm : (cx.T 2 == sysModules) = false
  get : ∀ F h, cx.XF F h → CacheAt cx.prog cx.w cx.T P.dom cv F h
  set : ∀ F h h', (∀ a, F a → a ≠ cx.T 2) → cx.XF F h → (∀ a o, a ≠ cx.T 2 → h.get? a = some o → h'.get? a = some o) → CacheAt cx.prog cx.w cx.T P.dom cv F h' → cx.XF F h'
  ck : ∀ cf, cx.cok cf → (cf P.tf [.str [97], .tok 0, .str P.qm]).isSome → ∀ k d, k ∈ P.dom → cf P.tf [.str k, .tok 0, .str P.qm] = some d → cv k = some d
section
variable {cx : XCx} {ε : Sc} {n : Nat} {cf : CfT} {A : Around} {env : Env} {F F' : AP} {s s' : Shared} {ρ ρ' : List Slot} {ad : NAd} {m cm : SV} {dom : List (List Nat)} {cv : List Nat → Option D} {kvs : List (Str × Value)} {k : List Nat} {d : D} {C : CacheP}
theorem ziB {a b : List Nat} (h : (⟨a.toArray⟩ : Str) = ⟨b.toArray⟩) : a = b := by injection h with h; exact congrArg Array.toList h
theorem CacheL.mono {prog : Program} {w : World} {T : NAd} (hF : ∀ a, F a → F' a) {h h' : Heap} (hk : ∀ a o, F a ∨ a = T 2 → h.get? a = some o → h'.get? a = some o) (c : CacheL prog w T dom cv F h kvs) : CacheL prog w T dom cv F' h' kvs := by
  cases c with
  | mk g q =>
    obtain ⟨o, es, ep, ho, r⟩ := g
    exact .mk ⟨o, es, ep, hk _ _ (.inr rfl) ho, r⟩ fun x hx => let ⟨l, d, e1, e2, e3, e4⟩ := q x hx; ⟨l, d, e1, e2, e3, e4.mono hF fun a o f e => hk a o (.inl f) e⟩
theorem CacheL.len (c : CacheL cx.prog cx.w cx.T dom cv F s.heap kvs) : kvs.length ≤ dom.length := by
  cases c with
  | mk g q =>
    obtain ⟨_, _, _, _, _, _, _, _, nd⟩ := g
    have := nd.length_le_of_subset (l₂ := dom.map fun l => (⟨l.toArray⟩ : Str)) fun x hx => by
      obtain ⟨y, hy, e⟩ := List.mem_map.mp hx
      obtain ⟨l, d, e1, e2, _⟩ := q y hy
      exact List.mem_map.mpr ⟨l, e2, e1.symm.trans e⟩
    rwa [List.length_map, List.length_map] at this
theorem zg7 {k : Str} {y : Str × Value} (h : (kvs.find? fun kv => decide (kv.1 = k)) = some y) : y.1 = k := of_decide_eq_true (p := y.1 = k) (List.find?_some (p := fun kv : Str × Value => decide (kv.1 = k)) h)
theorem CacheL.at {h : Heap} (c : CacheL cx.prog cx.w cx.T dom cv F h kvs) {x : Str × Value} (hx : x ∈ kvs) (e : x.1 = ⟨k.toArray⟩) (hd : cv k = some d) : ∃ v, valueAt kvs ⟨k.toArray⟩ = some v ∧ Rep cx.T F h v d := by
  cases c with
  | mk g q =>
    cases hf : kvs.find? fun kv => decide (kv.1 = ⟨k.toArray⟩) with
    | none => exact absurd (decide_eq_true e) (List.find?_eq_none.mp hf x hx)
    | some y =>
      obtain ⟨l, d', e1, _, e3, r⟩ := q y (List.mem_of_find?_eq_some hf)
      cases ziB (e1.symm.trans (zg7 hf))
      rw [hd] at e3
      cases e3
      exact ⟨y.2, (congrArg (Option.map Prod.snd) hf), r⟩
theorem has_of {v : Value} (e : valueAt kvs ⟨k.toArray⟩ = some v) : ∃ x ∈ kvs, x.1 = ⟨k.toArray⟩ := by
  obtain ⟨y, hy, _⟩ := Option.map_eq_some_iff.mp e
  exact ⟨y, List.mem_of_find?_eq_some hy, zg7 hy⟩
theorem zhn {v : Value} : ∃ x ∈ stored kvs (⟨k.toArray⟩ : Str) v, x.1 = ⟨k.toArray⟩ := by
  unfold stored
  by_cases h : (kvs.any fun kv => decide (kv.1 = (⟨k.toArray⟩ : Str))) = true
  · rw [if_pos h]
    obtain ⟨y, hy, e⟩ := List.any_eq_true.mp h
    refine ⟨_, List.mem_map.mpr ⟨y, hy, if_pos (of_decide_eq_true e)⟩, of_decide_eq_true e⟩
  · rw [if_neg h]
    exact ⟨_, List.mem_append_right _ List.mem_cons_self, rfl⟩
theorem zhm {v : Value} {x : Str × Value} (h : x ∈ stored kvs (⟨k.toArray⟩ : Str) v) : x ∈ kvs ∨ x = (⟨k.toArray⟩, v) := by
  unfold stored at h
  by_cases hc : (kvs.any fun kv => decide (kv.1 = (⟨k.toArray⟩ : Str))) = true
  · rw [if_pos hc] at h
    obtain ⟨y, hy, e⟩ := List.mem_map.mp h
    by_cases hk : y.1 = ⟨k.toArray⟩
    · rw [if_pos hk, hk] at e; exact .inr e.symm
    · rw [if_neg hk] at e; exact .inl (e ▸ hy)
  · rw [if_neg hc] at h
    rcases List.mem_append.mp h with h | h
    · exact .inl h
    · exact .inr (List.mem_singleton.mp h)
theorem CacheG.put (G : CacheG cx C) (w : Wd cx F s) (c : CacheL cx.prog cx.w cx.T C.dom G.cv F s.heap kvs) (hk : k ∈ C.dom) (hc : G.cv k = some d) {v : Value} (r : Rep cx.T F s.heap v d) {h' : Heap} (g : h'.DictOf (PySem.strKind cx.prog cx.w) (cx.T 2) (stored kvs ⟨k.toArray⟩ v)) (sb : Heap.SameBut (cx.T 2) s.heap h') (t : Nat) :
    Step cx F s F { s with heap := h', toks := t } ∧ InC cx C.dom G.cv F h' k := by
  have keep : ∀ a o, a ≠ cx.T 2 → s.heap.get? a = some o → h'.get? a = some o := fun a o ne e => (sb.2 a ne).trans e
  have kF : ∀ a o, F a → s.heap.get? a = some o → h'.get? a = some o := fun a o f e => keep a o (fun e' => w.nx a f (e' ▸ G.xt)) e
  have kX : ∀ a o, ¬ cx.X a → s.heap.get? a = some o → h'.get? a = some o := fun a o nx e => keep a o (fun e' => nx (e' ▸ G.xt)) e
  have c' : CacheL cx.prog cx.w cx.T C.dom G.cv F h' (stored kvs ⟨k.toArray⟩ v) := by
    cases c with
    | mk g0 q =>
      refine .mk g fun x hx => ?_
      rcases zhm hx with hx | rfl
      · obtain ⟨l, d, e1, e2, e3, e4⟩ := q x hx
        exact ⟨l, d, e1, e2, e3, e4.mono (fun _ h => h) kF⟩
      · exact ⟨k, d, rfl, hk, hc, r.mono (fun _ h => h) kF⟩
  refine ⟨⟨fun _ h => h, fun _ h => .inl h, fun a o e nx => kX a o nx e, rfl, ⟨fun a o e nx => kX a o nx (w.base a o e nx), G.set _ _ _ (fun a f e => w.nx a f (e ▸ G.xt)) w.xi keep ⟨_, c'⟩, w.gens, w.f0, fun a f => let ⟨o, e⟩ := w.lt a f; ⟨o, kF a o f e⟩, w.nx, fun a x => ?_⟩⟩, _, c', zhn⟩
  by_cases e : a = cx.T 2
  · obtain ⟨o, _, _, ho, _⟩ := g
    exact ⟨o, e ▸ ho⟩
  · obtain ⟨o, ho⟩ := w.xex a x
    exact ⟨o, keep a o e ho⟩
noncomputable def KeyPure (cx : XCx) (ε : Sc) (ek : Expr) (k : X) : Prop :=
  ∀ n cf A env F s ρ ad m cm, Here cx ε n cf A env F s ρ ad m cm → ∀ q, ev cf k ρ = some [.val (.str q)] → ∀ (Q E : VP), (∀ t u, (∀ c ∈ q, c < 0x110000) → q.length ≤ lim → Q (.str ⟨q.toArray⟩ t) { s with toks := u }) → wpAny (model cx.prog cx.w) A (eval ek env) Q E s
theorem ze1 {x y : Str} {i j : Nat} {p p' pos : Pos} (hv : ε.vars.lookup x = some i) (hn : (x == ("__classdict__" : Str)) = false) (hd : (x == ("__debug__" : Str)) = false) (hv' : ε.vars.lookup y = some j) (hn' : (y == ("__classdict__" : Str)) = false) (hd' : (y == ("__debug__" : Str)) = false) :
    KeyPure cx ε (.Subscript (.Name x p) (.Name y p') pos) (.op .index (.cons (.var i) (.cons (.var j) .nil))) := by
  intro n cf A env F s ρ ad m cm H q hq Q E hQ
  obtain ⟨rs, h1, h2⟩ := ev_op hq
  obtain ⟨ra, xs, ha, h3, rfl⟩ := zax h1
  obtain ⟨rb, ys, hb, h4, rfl⟩ := zax h3
  cases zbX h4
  refine Subscript_ (zc0 H hv hn hd ha fun a qa => zc0 H hv' hn' hd' hb fun b qb => zdL H.wd qa.brep (zeu h2) (zfN H.wd qa.brep qb.brep h2 fun v u r => ?_))
  cases r with
  | val r => cases r with | str t pp z => exact hQ t u pp z
set_option genInjectivity false in
structure CPre (C : CacheP) (cf : CfT) (k : X) (si li : Nat) (ρ : List Slot) (q : List Nat) : Prop where
  star : ev cf (.var si) ρ = some [.val (.tok 0)]
  dic : ev cf (.var li) ρ = some [.val (.tok 2)]
  isS : (cf C.tf [.str [97], .tok 0, .str C.qm]).isSome
  key : ev cf k ρ = some [.val (.str q)]
  mem : q ∈ C.dom
noncomputable abbrev tcall (C : CacheP) (k : X) (si : Nat) : X := .call C.tf (.cons k (.cons (.var si) (.cons (.const (.str C.qm)) .nil)))
theorem CPre.call {k : X} {si li : Nat} {q : List Nat} (P : CPre C cf k si li ρ q) {r : R} (h : ev cf (tcall C k si) ρ = some [r]) : ∃ d, r = .val d ∧ cf C.tf [.str q, .tok 0, .str C.qm] = some d := by
  replace h := (zaE _).symm.trans h
  have e : ev cf (.cons k (.cons (.var si) (.cons (.const (.str C.qm)) .nil))) ρ = some [.val (.str q), .val (.tok 0), .val (.str C.qm)] := by
    rw [zaA, P.key]
    show (ev cf (.cons (.var si) _) ρ).map _ = _
    rw [zaA, P.star]
    rfl
  rw [e] at h
  obtain ⟨d, e3, e4⟩ := Option.map_eq_some_iff.mp h
  cases e4
  exact ⟨d, rfl, e3⟩
theorem zdd (H : Here cx ε n cf A env F s ρ ad m cm) {x : Str} {i : Nat} {p : Pos} (hv : ε.vars.lookup x = some i) (hn : (x == ("__classdict__" : Str)) = false) (hd : (x == ("__debug__" : Str)) = false) (hi : ev cf (.var i) ρ = some [.val (.tok 2)])
    {Q E : VP} (h : Q (.ref (cx.T 2)) s) : wpAny (model cx.prog cx.w) A (eval (.Name x p) env) Q E s := by
  refine zc0 H hv hn hd hi fun v r => ?_
  cases r with
  | val r => cases r with | tok _ => exact h
theorem zhR (G : CacheG cx C) {lx : Str} {si li : Nat} {e1 e2 e : Expr} {k : X} {p1 p2 p3 p4 p5 p6 : Pos} (hx : ε.vars.lookup lx = some li) (hn : (lx == ("__classdict__" : Str)) = false) (hd : (lx == ("__debug__" : Str)) = false) (k1 : KeyPure cx ε e1 k) (k2 : KeyPure cx ε e2 k)
    (he : Sound cx ε e (tcall C k si)) (hs : ∀ env, swapsWith e (some (.Subscript (.Name lx p3) e2 p4)) p5.line env = pure false) (hm : behindInMarks .NotIn (.Name lx p1) = false)
    (H : HereS cx ε n cf A env F s ρ ad m cm) {q : List Nat} (P : CPre C cf k si li ρ q) {d : D} (hd' : ev cf (tcall C k si) ρ = some [.val d]) {Q : Flow → Shared → Prop} {E : VP}
    (hQ : ∀ F' s', Step cx F s F' s' → InC cx C.dom G.cv F' s'.heap q → Q .next s') :
    wpAny (model cx.prog cx.w) A (exec (.If (.Compare e1 [.NotIn] [.Name lx p1] p2) [.Assign [.Subscript (.Name lx p3) e2 p4] e p5] [] p6) env) Q E s := by
  obtain ⟨d', er, hcf⟩ := P.call hd'
  cases er
  have hcv : G.cv q = some d := G.ck cf H.calls.cok P.isS q d P.mem hcf
  refine wpAny_If (wpAny_isTrue_Compare1 (k1 n cf A env F s ρ ad m cm H.here q P.key _ _ fun t u pp z => zdd (H.here.step ((Step.refl H.wd).toks u)) hx hn hd P.dic ?_) hm)
  obtain ⟨kvs, c⟩ := G.get _ _ H.wd.xi
  have g : s.heap.DictOf (PySem.strKind cx.prog cx.w) (cx.T 2) kvs := by cases c with | mk g _ => exact g
  have st0 : ∀ u, Step cx F s F { s with toks := u } := (Step.refl H.wd).toks
  refine wpAny_notIn_of (knd := PySem.strKind _ _) (k := ⟨q.toArray⟩) (strKind_is _ _ _ _) G.nm g.mapOf ?_
  refine wpAny_truthy_bool ?_
  have st1 := st0 (u + 1)
  cases hv : valueAt kvs ⟨q.toArray⟩ with
  | some v => exact wpAny_execs_nil (hQ F _ (st0 _) ⟨kvs, c, has_of hv⟩)
  | none =>
    have H1 := H.step st1
    refine wpAny_execs_cons (wpAny_Assign_Subscript (he.ev n cf A env F _ ρ ad m cm H1.here _ hd' _ _ fun v F2 s2 st2 qv => ?_) (hs env))
    have H2 := H1.step st2
    refine zdd H2.here hx hn hd P.dic (k2 n cf A env F2 s2 ρ ad m cm H2.here q P.key _ _ fun t u pp z => ?_)
    have st3 := (Step.refl H2.wd).toks u
    obtain ⟨kvs2, c2⟩ := G.get _ _ H2.wd.xi
    have g2 : s2.heap.DictOf (PySem.strKind cx.prog cx.w) (cx.T 2) kvs2 := by cases c2 with | mk g _ => exact g
    refine wpAny_setItem_pairs (knd := PySem.strKind _ _) (k := ⟨q.toArray⟩) (strKind_is _ _ _ _) g2 (fun h' g' sb => ?_) (zba (Nat.le_trans c2.len G.dl))
    cases qv with
    | val rv =>
      obtain ⟨st4, ic⟩ := G.put st3.wd c2 P.mem hcv rv g' sb (u + 1)
      exact wpAny_execs_nil (hQ F2 _ (st1.trans (st2.trans (st3.trans st4))) ic)
theorem zhS (G : CacheG cx C) {lx f : Str} {i si li : Nat} {ek : Expr} {k y : X} {p p1 p2 pos : Pos} {es : List Expr} (hk : ε.kinds.lookup f = some .globalImplicit) (hv : cx.mg f = some (.ref (cx.fa i))) (hfd : (f == ("__debug__" : Str)) = false)
    (hx : ε.vars.lookup lx = some li) (hn : (lx == ("__classdict__" : Str)) = false) (hd : (lx == ("__debug__" : Str)) = false) (kp : KeyPure cx ε ek k) (h : SoundL cx ε es y false)
    (H : Here cx ε n cf A env F s ρ ad m cm) {q : List Nat} (P : CPre C cf k si li ρ q) (ic : InC cx C.dom G.cv F s.heap q) {r : R} (he : ev cf (.call i (.cons (tcall C k si) y)) ρ = some [r]) :
    Ev cx A F s (eval (.Call (.Name f p) (.Subscript (.Name lx p1) ek p2 :: es) [] pos) env) r := by
  intro Q E hQ
  replace he := (zaE _).symm.trans he
  split at he
  · rename_i rs e1
    split at he
    · rename_i ds e2
      obtain ⟨d, e3, e4⟩ := Option.map_eq_some_iff.mp he
      cases e4
      rw [za3 (by intro _ _ _ e; cases e)]
      obtain ⟨⟨o, fd, g, hfdd, nx⟩, hcall⟩ := H.calls.call i ds d e3
      refine wb (zci H hk hv hfd ?_)
      obtain ⟨r0, rs', e5, e6, rfl⟩ := zax e1
      obtain ⟨d0, er, hcf⟩ := P.call e5
      cases er
      have hcv := G.ck cf H.calls.cok P.isS q d0 P.mem hcf
      have first : ∀ (Q E : VP), (∀ v u, Rep cx.T F s.heap v d0 → Q v { s with toks := u }) → wpAny (model cx.prog cx.w) A (eval (.Subscript (.Name lx p1) ek p2) env) Q E s := by
        intro Q E hQ
        refine Subscript_ (zdd H hx hn hd P.dic (kp n cf A env F s ρ ad m cm H q P.key _ _ fun t u pp z => ?_))
        obtain ⟨kvs, c, x, hxm, hxe⟩ := ic
        obtain ⟨v, e, r⟩ := c.at hxm hxe hcv
        have g : s.heap.DictOf (PySem.strKind cx.prog cx.w) (cx.T 2) kvs := by cases c with | mk g _ => exact g
        obtain ⟨ops, hs⟩ := zcn ek (.ref (cx.T 2)) (.str ⟨q.toArray⟩ t)
        exact tail_any g.typeIs PySem.slot_dict_getitem.lookup (wpAny_getItem_of (knd := PySem.strKind _ _) (k := ⟨q.toArray⟩) (strKind_is _ _ _ _) g.mapOf e (hQ v _ r)) hs
      refine Calls.callWith_function (o := o) (fd := fd) ?_
      rw [zau rfl, zaH]
      refine Calls.evalArgs_plain (Calls.spliced_cons (first _ _ fun v u rv => ?_))
      have st0 : Step cx F s F { s with toks := u } := (Step.refl H.wd).toks u
      refine h.run F _ ρ ad m cm (H.step st0) rs' e6 _ _ fun vs F' s' st q => ?_
      obtain ⟨F'', st', _, q'⟩ := zfP H.ok H.wd (st0.trans st) (fun _ h => h) (.cons (.val (st.rep st0.wd rv)) (q.low st0)) e2
      refine ⟨⟨st'.wd.base _ _ g nx, hfdd⟩, ?_⟩
      show wpAny _ _ (call (.ref (cx.fa i)) _) Q E s'
      refine wpAny_call (hcall A F'' s' _ H.bud.toBud st'.wd q' _ fun v F3 s3 st3 r => ?_)
      exact hQ v F3 s3 (st'.trans st3) (.val r)
    · cases he
  · cases he
theorem seq_at (H : HereS cx ε n cf A env F s ρ ad m cm) {st : Stmt} {sts : List Stmt} {a b : S} (h1 : ∀ ρ' o, ex cf a ρ = some (ρ', o) → ∀ Q E, PostS cx ε env F s ρ ad ρ' o Q → wpAny (model cx.prog cx.w) A (exec st env) Q E s) (h2 : SoundSs cx ε sts b) {o : Out}
    (h : ex cf (.seq a b) ρ = some (ρ', o)) {Q : Flow → Shared → Prop} {E : VP} (hQ : PostS cx ε env F s ρ ad ρ' o Q) : wpAny (model cx.prog cx.w) A (execs (st :: sts) env) Q E s := by
  refine wpAny_execs_cons ?_
  replace h := (zgr cf).symm.trans h
  split at h
  · rename_i ρ₁ e1
    refine h1 ρ₁ .next e1 _ _ fun f F' s' ad' m' cm' x fr q => ?_
    cases q
    exact h2 n cf A env F' s' ρ₁ ad' m' cm' (H.stepS x fr) ρ' o h _ _ (hQ.after x)
  · rename_i ρ₁ o₁ hne e1
    cases h
    refine h1 _ _ e1 _ _ fun f F' s' ad' m' cm' x fr q => ?_
    cases q with
    | next => exact (hne rfl).elim
    | brk => exact hQ _ F' s' ad' m' cm' x fr .brk
    | cont => exact hQ _ F' s' ad' m' cm' x fr .cont
    | ret r => exact hQ _ F' s' ad' m' cm' x fr (.ret r)
  · cases h
theorem zjP {x : X} {t : Bool} (h : evT cf (.not x) ρ = some t) : ∃ r, ev cf x ρ = some [r] ∧ r.ds.truth = some (!t) := by
  unfold evT truthR at h
  split at h
  · rename_i res e1
    replace e1 := (zaY _).symm.trans e1
    split at e1
    · rename_i r e2
      obtain ⟨b', hb', h2⟩ := Option.map_eq_some_iff.mp e1
      cases h2
      simp only [R.ds, D.truth, Option.some.injEq] at h
      subst h
      exact ⟨r, e2, by rw [Bool.not_not]; exact hb'⟩
    · cases e1
  · cases h
noncomputable abbrev cpreP (C : CacheP) (k : X) (si li : Nat) : (Nat → List D → Option D) → List Slot → Prop := fun cf ρ => ∃ q, CPre C cf k si li ρ q ∧ ∃ d, ev cf (tcall C k si) ρ = some [.val d]
theorem zkc {P : (Nat → List D → Option D) → List Slot → Prop} {o : Out} {b : S} (h : ex cf (.seq (guard P) b) ρ = some (ρ', o)) : P cf ρ ∧ ex cf b ρ = some (ρ', o) := by
  rw [ziW] at h
  cases hg : ex cf (guard P) ρ with
  | none => rw [hg] at h; cases h
  | some x =>
    obtain ⟨ρ1, o1⟩ := x
    obtain ⟨p, rfl, rfl⟩ := ziP hg
    rw [hg] at h
    exact ⟨p, h⟩
theorem pair_if (G : CacheG cx C) {lx f : Str} {i si li : Nat} {e1 e2 e3 e : Expr} {k y : X} {p p1 p2 p3 p4 p5 p6 p7 p8 p9 p0 pos : Pos} {es : List Expr} {bs rest : List Stmt} {b r : S} (hk : ε.kinds.lookup f = some .globalImplicit) (hv : cx.mg f = some (.ref (cx.fa i))) (hfd : (f == ("__debug__" : Str)) = false)
    (hx : ε.vars.lookup lx = some li) (hn : (lx == ("__classdict__" : Str)) = false) (hd : (lx == ("__debug__" : Str)) = false) (k1 : KeyPure cx ε e1 k) (k2 : KeyPure cx ε e2 k) (k3 : KeyPure cx ε e3 k)
    (he : Sound cx ε e (tcall C k si)) (hs : ∀ env, swapsWith e (some (.Subscript (.Name lx p3) e2 p4)) p5.line env = pure false) (hm : behindInMarks .NotIn (.Name lx p1) = false) (h : SoundL cx ε es y false) (hb : SoundSs cx ε bs b) (hr : SoundSs cx ε rest r) :
    SoundSs cx ε (.If (.Compare e1 [.NotIn] [.Name lx p1] p2) [.Assign [.Subscript (.Name lx p3) e2 p4] e p5] [] p6 :: .If (.UnaryOp .Not (.Call (.Name f p) (.Subscript (.Name lx p7) e3 p8 :: es) [] pos) p9) bs [] p0 :: rest)
      (.seq (guard (cpreP C k si li)) (.seq (.ite (.not (.call i (.cons (tcall C k si) y))) b .skip) r)) := by
  intro n cf A env F s ρ ad m cm H ρ' o hex Q E hQ
  obtain ⟨⟨q, P, d, hd'⟩, hex⟩ := zkc hex
  refine wpAny_execs_cons (zhR G hx hn hd k1 k2 he hs hm H P hd' fun F1 s1 st1 ic => ?_)
  have H1 := H.step st1
  refine seq_at H1 (fun ρ2 o2 h1 Q E hQ => ?_) hr hex (hQ.after (.ofStep st1))
  replace h1 := (zgs cf).symm.trans h1
  cases ht : evT cf (.not (.call i (.cons (tcall C k si) y))) ρ with
  | none => rw [ht] at h1; cases h1
  | some t =>
    obtain ⟨r0, e1, e2⟩ := zjP ht
    refine wpAny_If ?_
    show wpAny _ _ (do return !(← (do let v ← eval (.Call (.Name f p) (.Subscript (.Name lx p7) e3 p8 :: es) [] pos) env; standAt pos; holding [v] (truthy v)))) _ _ _
    refine wb (Ev.bind (zhS G hk hv hfd hx hn hd k3 h H1.here P ic e1) fun v F' s' st q => wb (wpAny_standAt (wpAny_holding (zbN st.wd q.brep e2 _ _ fun F'' s'' st' => wpAny_pure ?_))))
    have st2 := st.trans st'
    rw [Bool.not_not, ]
    rw [ht] at h1
    cases t with
    | true => exact hb n cf A env F'' s'' ρ ad m cm (H1.step st2) ρ2 o2 h1 _ _ (hQ.after (.ofStep st2))
    | false => exact zac n cf A env F'' s'' ρ ad m cm (H1.step st2) ρ2 o2 h1 _ _ (hQ.after (.ofStep st2))
end
end Mine
end
section
open PySem PySem.Calls PyProof.Rows PySem.Builtin.Str PySem.W
namespace Mine
noncomputable abbrev XCx.withC (cx : XCx) (T : NAd) (dom : List (List Nat)) (cv : List Nat → Option D) (ck : (Nat → List D → Option D) → Prop) : XCx :=
  { cx with T := T, X := fun a => cx.X a ∨ a = T 2, XF := fun F h => cx.XF F h ∧ CacheAt cx.prog cx.w T dom cv F h, cok := ck }
set_option genInjectivity false in
structure OkT (cx : XCx) (T : NAd) : Prop where
  inj : Inj T
  h0 : ∀ a o, cx.h0.get? a = some o → a ≠ T 2
  nx : ¬ cx.X (T 2)
  nm : (T 2 == sysModules) = false
section
variable {cx : XCx} {T : NAd} {dom : List (List Nat)} {cv : List Nat → Option D} {ck : (Nat → List D → Option D) → Prop}
theorem nxC (hx0 : ∀ a o, cx.h0.get? a = some o → ¬ cx.X a) (h : OkT cx T) {a : Addr} {o : Obj} (e : cx.h0.get? a = some o) : ¬ (cx.withC T dom cv ck).X a := fun q => q.elim (hx0 a o e) (h.h0 a o e)
theorem zky {h : Heap} {a : Addr} {m : SV} (x : h.Ns a m) : ∃ o, h.get? a = some o := let ⟨o, _, _, e, _⟩ := x; ⟨o, e⟩
theorem CxOk.withC (hx0 : ∀ a o, cx.h0.get? a = some o → ¬ cx.X a) (ok : CxOk (cx.withT T)) (h : OkT cx T) : CxOk (cx.withC T dom cv ck) := by
  have nX : ∀ {a : Addr} {m : SV}, cx.h0.Ns a m → ¬ (cx.withC T dom cv ck).X a := fun x => let ⟨_, e⟩ := zky x; nxC hx0 h e
  obtain ⟨mc, s, _⟩ := ok.lim
  exact ⟨fun F F' h h' x hF hk => ⟨ok.xi F F' h h' x.1 hF fun a o q e => hk a o (q.imp_right .inl) e, let ⟨kvs, c⟩ := x.2; ⟨kvs, c.mono hF fun a o q e => hk a o (q.imp_right .inr) e⟩⟩, ok.glob, nX ok.glob, ok.blt, nX ok.blt, ok.bmb, ok.lim, nX s, fun h hk => ok.seer h fun a o e _ => hk a o e (nxC hx0 ‹OkT cx T› e), ok.tree, ok.nb, h.inj⟩
noncomputable def LamG.withC (hx0 : ∀ a o, cx.h0.get? a = some o → ¬ cx.X a) (G : LamG (cx.withT T)) (h : OkT cx T) : LamG (cx.withC T dom cv ck) :=
  { c := G.c, Pt := G.Pt, qs := G.qs, xget := fun F h x => G.xget F h x.1,
    xset := fun F F' h1 h2 x hF hk t => ⟨G.xset F F' h1 h2 x.1 hF (fun a o q e => hk a o (q.imp_right fun q => ⟨.inl q.1, q.2⟩) e) t, let ⟨kvs, c⟩ := x.2; ⟨kvs, c.mono hF fun a o q e => hk a o (q.imp_right fun q => ⟨.inr q, fun e' => h.nx (q ▸ e' ▸ G.xp)⟩) e⟩⟩,
    xp := .inl G.xp, x0 := fun a o e => nxC hx0 h e, apart := G.apart, blt := G.blt }
noncomputable def cacheG (C : CacheP) (dl : C.dom.length ≤ lim) (h : OkT cx T) (xi : ∀ F h h', (∀ a, F a → a ≠ T 2) → cx.XF F h → (∀ a o, a ≠ T 2 → h.get? a = some o → h'.get? a = some o) → cx.XF F h')
    (hk : ∀ cf, ck cf → (cf C.tf [.str [97], .tok 0, .str C.qm]).isSome → ∀ k d, k ∈ C.dom → cf C.tf [.str k, .tok 0, .str C.qm] = some d → cv k = some d) : CacheG (cx.withC T C.dom cv ck) C :=
  { cv := cv, dl := dl, xt := .inr rfl, nm := h.nm, get := fun _ _ x => x.2, set := fun F h h' hF x hk c => ⟨xi F h h' hF x.1 hk, c⟩, ck := hk }
noncomputable def tokL (a b : Nat) : Nat → Addr
  | 0 => a
  | 1 => a + b + 1
  | 2 => b
  | k + 3 => a + b + (k + 2)
theorem zjq (a b : Nat) (h : a ≠ b) : ∀ i j, tokL a b i = tokL a b j → i = j := by
  have l1 : ∀ k, a < a + b + (k + 1) := fun k => by clear h; omega
  have l2 : ∀ k, b < a + b + (k + 1) := fun k => by clear h; omega
  have l3 : ∀ k, a + b + 1 ≠ a + b + (k + 2) := fun k e => by omega
  intro i j e
  rcases i with _ | _ | _ | i <;> rcases j with _ | _ | _ | j
  · rfl
  · exact absurd e (Nat.ne_of_lt (l1 _))
  · exact absurd e h
  · exact absurd e (Nat.ne_of_lt (l1 _))
  · exact absurd e.symm (Nat.ne_of_lt (l1 _))
  · rfl
  · exact absurd e.symm (Nat.ne_of_lt (l2 _))
  · exact absurd e (l3 _)
  · exact absurd e.symm h
  · exact absurd e (Nat.ne_of_lt (l2 _))
  · rfl
  · exact absurd e (Nat.ne_of_lt (l2 _))
  · exact absurd e.symm (Nat.ne_of_lt (l1 _))
  · exact absurd e.symm (l3 _)
  · exact absurd e.symm (Nat.ne_of_lt (l2 _))
  · exact congrArg (· + 1) (Nat.add_left_cancel e)
end
theorem zjY {cx : XCx} {dom : List (List Nat)} {cv : List Nat → Option D} {ck : (Nat → List D → Option D) → Prop} (hx0 : ∀ a o, cx.h0.get? a = some o → ¬ cx.X a) (hk0 : cx.cok fun _ _ => none) (hcx : ∀ T, Inj T → CxOk (cx.withT T))
    {ε : Sc} {i i1 i2 : Nat} {fn : Fn} {fd : FuncData} {st1 : Stmt} {lx : Str} {p1 p2 p3 : Pos} {rest : List Stmt} {ps : List Str} {sx : S} {n : Nat} {cf : CfT} (X : ∀ T, FnIs (cx.withT T) ε i fn fd (st1 :: .Assign [.Name lx p1] (.Dict [] [] p2) p3 :: rest) ps)
    (hc : ∀ T, OkT cx T → CallOK (cx.withC T dom cv ck) n cf) (h1 : ∀ T, SoundS (cx.withT T) ε st1 (newTok i1 0)) (hx2 : ε.vars.lookup lx = some i2) (hf2 : ε.kinds.lookup lx ≠ some .free) (hsw : ∀ env : Env, swapsWith (.Dict [] [] p2) (some (.Name lx p1)) p3.line env = pure false)
    (hs : ∀ T, OkT cx T → SoundSs (cx.withC T dom cv ck) ε rest sx)
    {ns : List Int} {ρ ρ' : List Slot} (hb : bindD fn [.list (ns.map .int)] = some ρ) (hp : PlainRho ρ) (hn : noApp i1 ρ = true) (hl : i1 < ρ.length)
    (he : ex cf sx ((ρ.set i1 (.val (.tok 0))).set i2 (.val (.tok 2))) = some (ρ', .ret (.bool true)))
    {A : Around} {F : AP} {s : Shared} {v : Value} (bud : Bud (n + 1) A) (w : Wd cx F s) (q : Rep cx.T F s.heap v (.list (ns.map .int))) {Rs : Result → Shared → Prop}
    (hR : ∀ T F' s', OkT cx T → Wd (cx.withC T dom cv ck) F' s' → s'.os = s.os → Rs (.ok (.ret (.bool true))) s') (hd1 : dSlot i1 = false := by rfl) : codeAny (model cx.prog cx.w) A (.call (.ref (cx.fa i)) ⟨[v], []⟩) Rs s := by
  have inj0 : Inj (fun k : Nat => (k : Addr)) := fun i j e => e
  have ok0 := hcx _ inj0
  have w0 : Wd (cx.withT fun k : Nat => (k : Addr)) F s := ⟨w.base, w.xi, w.gens, w.f0, w.lt, w.nx, w.xex⟩
  refine zjb (cx := cx.withT fun k : Nat => (k : Addr)) (X fun k : Nat => (k : Addr)) ok0 hb bud w0 (.cons (zie (fun _ h => h) q) .nil) fun A' env F₁ s₂ m cm Q E budE w₂ os fr hQ => ?_
  refine wpAny_execs_cons ?_
  refine h1 (fun k : Nat => (k : Addr)) n (fun _ _ => none) A' env F₁ s₂ ρ _ m cm ⟨ok0, (X fun k : Nat => (k : Addr)).sc, ⟨hk0, fun _ _ _ e => nomatch e⟩, budE, w₂, fr⟩ _ _ (ziX hn hd1) _ _ fun f F' s' ad' m' cm' x fr' out => ?_
  cases out
  refine wpAny_execs_cons (wpAny_Assign_Name (wpAny_Dict_empty ?_) (hsw env))
  have hfr : s'.heap.get? s'.heap.objs.size = none := zbe _
  have st := Step.push ok0 x.wd { cls := .type "dict", data := .dict #[] } s'.toks
  have fr2 := fr'.step x.wd st
  have hg := Heap.DictOf.new (knd := PySem.strKind cx.prog cx.w) s'.heap
  have hset : ∀ j, slotAt (ρ.set i1 (.own [.str (tokC 0)])) j = if j = i1 then .own [.str (tokC 0)] else slotAt ρ j := fun j => by rw [zbn, if_pos hl]
  have hset' : ∀ j, slotAt (ρ.set i1 (.val (.tok 0))) j = if j = i1 then .val (.tok 0) else slotAt ρ j := fun j => by rw [zbn, if_pos hl]
  have own1 := fr'.own i1 _ (by rw [hset, if_pos rfl])
  have hne : ad' i1 ≠ s'.heap.objs.size := fun e => by
    obtain ⟨o, eo⟩ := own1.2.2.1
    rw [e, hfr] at eo; cases eo
  have okT : OkT cx (tokL (ad' i1) s'.heap.objs.size) := by
    refine ⟨zjq _ _ hne, fun a o e ea => ?_, x.wd.newNotX hfr, ?_⟩
    · have := x.wd.base a o e (hx0 a o e)
      rw [ea] at this
      rw [show s'.heap.get? (tokL (ad' i1) s'.heap.objs.size 2) = none from hfr] at this; cases this
    · obtain ⟨o, e⟩ := zky ok0.glob
      have h := Heap.lt_size (x.wd.base _ _ e ok0.gx)
      exact beq_false_of_ne fun e => absurd (show mainGlobals < sysModules from e ▸ h) (by decide)
  obtain ⟨w1, f1⟩ := fr2.retok (T' := tokL (ad' i1) s'.heap.objs.size) (X' := fun a => cx.X a ∨ a = tokL (ad' i1) s'.heap.objs.size 2) (XF' := fun F h => cx.XF F h ∧ CacheAt cx.prog cx.w (tokL (ad' i1) s'.heap.objs.size) dom cv F h) (ck := ck) (ρ' := ρ.set i1 (.val (.tok 0))) st.wd (fun _ h => .inl h)
    (fun a h => h.imp_right fun e => by
      subst e
      refine ⟨fun f => ?_, fun hm => ?_, let ⟨o, _, _, g, _⟩ := hg; ⟨o, g⟩⟩
      · obtain ⟨o, eo⟩ := x.wd.lt _ f
        rw [show s'.heap.get? (tokL (ad' i1) s'.heap.objs.size 2) = none from hfr] at eo; cases eo
      · obtain ⟨o, eo⟩ := fr'.isSome hm
        rw [show s'.heap.get? (tokL (ad' i1) s'.heap.objs.size 2) = none from hfr] at eo; cases eo)
    ⟨ok0.xi _ _ _ _ st.wd.xi (fun _ h => .inl h) fun _ _ _ e => e, [], .mk hg fun x hx => nomatch hx⟩ fun j => by
    rw [hset, hset']
    by_cases hj : j = i1
    · subst hj
      rw [if_pos rfl, if_pos rfl]
      exact .inl ⟨0, rfl, rfl, rfl⟩
    · rw [if_neg hj, if_neg hj]
      exact .inr ⟨hp j, rfl⟩
  have H1 : HereS (cx.withC (tokL (ad' i1) s'.heap.objs.size) dom cv ck) ε n cf A' env _ _ _ ad' m' cm' := ⟨(hcx _ okT.inj).withC hx0 okT, (X fun k : Nat => (k : Addr)).sc, hc _ okT, budE, w1, f1⟩
  refine zb9 H1 (Step.refl w1) hx2 hf2 (d := .tok 2) (Rep.tok (T := tokL (ad' i1) s'.heap.objs.size) (k := 2) fun h => absurd h (by decide)) fun s3 m3 cm3 x3 f3 => ?_
  refine hs _ okT n cf A' env _ s3 _ ad' m3 cm3 (H1.stepS x3 f3) ρ' _ he _ _ fun f F'' s'' ad'' m'' cm'' x' fr'' out' => ?_
  cases out' with
  | ret r =>
    cases r
    exact hQ _ _ (hR _ F'' s'' okT x'.wd (x'.os.trans (x3.os.trans (x.os.trans os))))
end Mine
end
section
open PySem
namespace Mine
noncomputable def s_escape : S := (.seq (.ite (.op .isInst (.cons (.var 0) (.cons (.const (.ty "str")) .nil))) (.seq (.ret (.op .translate (.cons (.var 0) .nil))) .skip) dead) .skip)
noncomputable def fn_escape : Fn := { np := 1, va := false, ns := 1, body := s_escape }
noncomputable def s_fspath : S := (.seq (.assign 1 (.op .tyOf (.cons (.var 0) .nil))) (.seq (.ite (.op .isSub (.cons (.var 1) (.cons (.tup (.cons (.const (.ty "str")) (.cons (.const (.ty "bytes")) .nil))) .nil))) (.seq (.ret (.var 0)) .skip) .skip) dead))
noncomputable def fn_fspath : Fn := { np := 1, va := false, ns := 4, body := s_fspath }
noncomputable def s_get_sep : S := (.seq (.ite (.op .isInst (.cons (.var 0) (.cons (.const (.ty "bytes")) .nil))) dead (.seq (.ret (.const (.str [47]))) .skip)) .skip)
noncomputable def fn_get_sep : Fn := { np := 1, va := false, ns := 1, body := s_get_sep }
noncomputable def s_join : S := (.seq (.assign 0 (.call 2 (.cons (.var 0) .nil))) (.seq (.assign 2 (.call 3 (.cons (.var 0) .nil))) (.seq (.assign 3 (.var 0)) (.seq (.try_ (.seq (.forE 4 (.seqI (.var 1)) (.seq (.assign 4 (.call 2 (.cons (.var 4) .nil))) (.seq (.ite (.or (.op .startswith (.cons (.var 4) (.cons (.var 2) .nil))) (.not (.var 3))) (.seq (.assign 3 (.var 4)) .skip) (.seq (.ite (.op .endswith (.cons (.var 3) (.cons (.var 2) .nil))) (.seq (.aug 3 (.var 4)) .skip) (.seq (.aug 3 (.op .add (.cons (.var 2) (.cons (.var 4) .nil)))) .skip)) .skip)) .skip))) .skip)) (.seq (.ret (.var 3)) .skip)))))
noncomputable def fn_join : Fn := { np := 1, va := true, ns := 5, body := s_join }
noncomputable def s_split : S := (.seq (.assign 0 (.call 2 (.cons (.var 0) .nil))) (.seq (.assign 1 (.call 3 (.cons (.var 0) .nil))) (.seq (.assign 2 (.op .add (.cons (.op .rfind (.cons (.var 0) (.cons (.var 1) .nil))) (.cons (.const (.int 1)) .nil)))) (.seq (.assign2 3 4 (.tup (.cons (.op .slice (.cons (.var 0) (.cons (.const .none) (.cons (.var 2) .nil)))) (.cons (.op .slice (.cons (.var 0) (.cons (.var 2) (.cons (.const .none) .nil)))) .nil)))) (.seq (.ite (.and (.var 3) (.op .ne (.cons (.var 3) (.cons (.op .mul (.cons (.var 1) (.cons (.op .len (.cons (.var 3) .nil)) .nil))) .nil)))) (.seq (.assign 3 (.op .rstrip (.cons (.var 3) (.cons (.var 1) .nil)))) .skip) .skip) (.seq (.ret (.tup (.cons (.var 3) (.cons (.var 4) .nil)))) .skip))))))
noncomputable def fn_split : Fn := { np := 1, va := false, ns := 5, body := s_split }
noncomputable def s_law_one : S := (.seq (.ite (.or (.op .eq (.cons (.var 0) (.cons (.const (.str [46])) .nil))) (.op .eq (.cons (.var 0) (.cons (.const (.str [40, 63, 33, 41])) .nil)))) (.seq (.ret (.op .eq (.cons (.var 0) (.cons (.const (.str [46])) .nil)))) .skip) .skip) (.seq (.ite (.op .ne (.cons (.op .index (.cons (.var 0) (.cons (.const (.int 0)) .nil))) (.cons (.const (.str [91])) .nil))) (.seq (.ret (.op .eq (.cons (.op .index (.cons (.var 0) (.cons (.op .neg (.cons (.const (.int 1)) .nil)) .nil))) (.cons (.var 1) .nil)))) .skip) .skip) (.seq (.assign 2 (.op .slice (.cons (.var 0) (.cons (.const (.int 1)) (.cons (.op .neg (.cons (.const (.int 1)) .nil)) .nil))))) (.seq (.assign 3 (.op .eq (.cons (.op .index (.cons (.var 2) (.cons (.const (.int 0)) .nil))) (.cons (.const (.str [94])) .nil)))) (.seq (.assign 4 (.ite (.var 3) (.const (.int 1)) (.const (.int 0)))) (.seq (.assign 5 (.const (.bool false))) (.seq (.while (.op .lt (.cons (.var 4) (.cons (.op .len (.cons (.var 2) .nil)) .nil))) (.seq (.ite (.op .eq (.cons (.op .index (.cons (.var 2) (.cons (.var 4) .nil))) (.cons (.const (.str [92])) .nil))) (.seq (.assign 4 (.op .add (.cons (.var 4) (.cons (.const (.int 1)) .nil)))) .skip) .skip) (.seq (.assign 6 (.op .index (.cons (.var 2) (.cons (.var 4) .nil)))) (.seq (.assign 7 (.var 6)) (.seq (.assign 4 (.op .add (.cons (.var 4) (.cons (.const (.int 1)) .nil)))) (.seq (.ite (.and (.op .lt (.cons (.op .add (.cons (.var 4) (.cons (.const (.int 1)) .nil))) (.cons (.op .len (.cons (.var 2) .nil)) .nil))) (.op .eq (.cons (.op .index (.cons (.var 2) (.cons (.var 4) .nil))) (.cons (.const (.str [45])) .nil)))) (.seq (.assign 4 (.op .add (.cons (.var 4) (.cons (.const (.int 1)) .nil)))) (.seq (.ite (.op .eq (.cons (.op .index (.cons (.var 2) (.cons (.var 4) .nil))) (.cons (.const (.str [92])) .nil))) (.seq (.assign 4 (.op .add (.cons (.var 4) (.cons (.const (.int 1)) .nil)))) .skip) .skip) (.seq (.assign 7 (.op .index (.cons (.var 2) (.cons (.var 4) .nil)))) (.seq (.assign 4 (.op .add (.cons (.var 4) (.cons (.const (.int 1)) .nil)))) .skip)))) .skip) (.seq (.ite (.and (.op .le (.cons (.var 6) (.cons (.var 1) .nil))) (.op .le (.cons (.var 1) (.cons (.var 7) .nil)))) (.seq (.assign 5 (.const (.bool true))) .skip) .skip) .skip))))))) (.seq (.ret (.op .ne (.cons (.var 5) (.cons (.var 3) .nil)))) .skip))))))))
noncomputable def fn_law_one : Fn := { np := 2, va := false, ns := 8, body := s_law_one }
noncomputable def s_law_takes : S := (.seq (.assign 3 (.list (.cons (.const (.int 0)) .nil))) (.seq (.forE 4 (.seqI (.var 0)) (.seq (.ite (.op .is_ (.cons (.var 4) (.cons (.var 1) .nil))) (.seq (.assign 3 (.ite (.var 3) (.op .listOf (.cons (.rangeI (.cons (.op .index (.cons (.var 3) (.cons (.const (.int 0)) .nil))) (.cons (.op .add (.cons (.op .len (.cons (.var 2) .nil)) (.cons (.const (.int 1)) .nil))) .nil))) .nil)) (.list .nil))) .skip) (.seq (.assign 3 (.comp 5 (.seqI (.var 3)) (.and (.op .lt (.cons (.var 5) (.cons (.op .len (.cons (.var 2) .nil)) .nil))) (.call 14 (.cons (.var 4) (.cons (.op .index (.cons (.var 2) (.cons (.var 5) .nil))) .nil)))) (.op .add (.cons (.var 5) (.cons (.const (.int 1)) .nil))))) .skip)) .skip)) (.seq (.ret (.op .in_ (.cons (.op .len (.cons (.var 2) .nil)) (.cons (.var 3) .nil)))) .skip)))
noncomputable def fn_law_takes : Fn := { np := 3, va := false, ns := 6, body := s_law_takes }
noncomputable def s_law_climb : S := (.seq (.assignO 1 (.list .nil)) (.seq (.assign2 2 3 (.call 5 (.cons (.var 0) .nil))) (.seq (.while (.op .ne (.cons (.var 2) (.cons (.var 0) .nil))) (.seq (.append 1 (.var 3)) (.seq (.assign 0 (.var 2)) (.seq (.assign2 2 3 (.call 5 (.cons (.var 0) .nil))) .skip)))) (.seq (.ite (.op .ne (.cons (.var 0) (.cons (.const (.str [])) .nil))) (.seq (.append 1 (.var 0)) .skip) .skip) (.seq (.seq (.fz 1) (.ret (.var 1))) .skip)))))
noncomputable def fn_law_climb : Fn := { np := 1, va := false, ns := 4, body := s_law_climb }
noncomputable def s_law_spread : S := (.seq (.ite (.not (.var 0)) (.seq (.ret (.ite (.op .eq (.cons (.var 1) (.cons (.const (.int 0)) .nil))) (.list (.cons (.const (.str [])) .nil)) (.list .nil))) .skip) .skip) (.seq (.assign 2 (.op .index (.cons (.var 0) (.cons (.const (.int 0)) .nil)))) (.seq (.ite (.op .eq (.cons (.var 2) (.cons (.const (.str [42])) .nil))) (.seq (.ret (.comp3 4 (.rangeI (.cons (.op .add (.cons (.var 1) (.cons (.const (.int 1)) .nil))) .nil)) 5 (.seqI (.call 21 (.cons (.op .slice (.cons (.var 0) (.cons (.const (.int 1)) (.cons (.const .none) .nil)))) (.cons (.op .sub (.cons (.var 1) (.cons (.var 4) .nil))) .nil)))) (.op .add (.cons (.op .add (.cons (.const (.str [42])) (.cons (.op .mul (.cons (.const (.str [47, 42])) (.cons (.var 4) .nil))) .nil))) (.cons (.var 5) .nil))))) .skip) .skip) (.seq (.ite (.op .eq (.cons (.var 2) (.cons (.const (.str [47])) .nil))) (.seq (.ret (.ite (.op .gt (.cons (.var 1) (.cons (.const (.int 0)) .nil))) (.comp 6 (.seqI (.call 21 (.cons (.op .slice (.cons (.var 0) (.cons (.const (.int 1)) (.cons (.const .none) .nil)))) (.cons (.op .sub (.cons (.var 1) (.cons (.const (.int 1)) .nil))) .nil)))) (.const (.bool true)) (.op .add (.cons (.const (.str [47])) (.cons (.var 6) .nil)))) (.list .nil))) .skip) .skip) (.seq (.assign 3 (.comp 7 (.seqI (.call 21 (.cons (.op .slice (.cons (.var 0) (.cons (.const (.int 1)) (.cons (.const .none) .nil)))) (.cons (.var 1) .nil)))) (.const (.bool true)) (.op .add (.cons (.var 2) (.cons (.var 7) .nil))))) (.seq (.ite (.and (.op .in_ (.cons (.var 2) (.cons (.tup (.cons (.const (.str [63])) (.cons (.const (.str [91, 33, 97, 93])) .nil))) .nil))) (.op .gt (.cons (.var 1) (.cons (.const (.int 0)) .nil)))) (.seq (.assign 3 (.op .add (.cons (.var 3) (.cons (.comp 8 (.seqI (.call 21 (.cons (.op .slice (.cons (.var 0) (.cons (.const (.int 1)) (.cons (.const .none) .nil)))) (.cons (.op .sub (.cons (.var 1) (.cons (.const (.int 1)) .nil))) .nil)))) (.const (.bool true)) (.op .add (.cons (.const (.str [47])) (.cons (.var 8) .nil)))) .nil)))) .skip) .skip) (.seq (.ret (.var 3)) .skip)))))))
noncomputable def fn_law_spread : Fn := { np := 2, va := false, ns := 9, body := s_law_spread }
noncomputable def its02 : List (List Nat) := [[42], [97], [63], [91, 33, 97, 93], [91, 97, 45, 98, 93], [98], [47]]
noncomputable def seqs02 : Nat → List (List Nat)
  | 0 => [[]]
  | n + 1 => [] :: its02.flatMap fun x => (seqs02 n).map (x ++ ·)
noncomputable def cp02 : CacheP := { tf := 1, qm := [91, 94, 47, 93], dom := seqs02 7 }
end Mine
end
section
open PySem
noncomputable section
namespace Mine
noncomputable def s_translate2 : S := (.seq (.assignO 3 (.list .nil)) (.seq (.alias 4 3) (.seq (.assign2 5 6 (.tup (.cons (.const (.int 0)) (.cons (.op .len (.cons (.var 0) .nil)) .nil)))) (.seq (.while (.op .lt (.cons (.var 5) (.cons (.var 6) .nil))) (.seq (.assign 7 (.op .index (.cons (.var 0) (.cons (.var 5) .nil)))) (.seq (.assign 5 (.op .add (.cons (.var 5) (.cons (.const (.int 1)) .nil)))) (.seq (.ite (.op .eq (.cons (.var 7) (.cons (.const (.str [42])) .nil))) (.seq (.ite (.or (.not (.var 3)) (.op .isnot (.cons (.op .index (.cons (.var 3) (.cons (.op .neg (.cons (.const (.int 1)) .nil)) .nil))) (.cons (.var 1) .nil)))) (.seq (.appendVia 4 3 (.var 1)) .skip) .skip) .skip) (.seq (.ite (.op .eq (.cons (.var 7) (.cons (.const (.str [63])) .nil))) (.seq (.appendVia 4 3 (.var 2)) .skip) (.seq (.ite (.op .eq (.cons (.var 7) (.cons (.const (.str [91])) .nil))) (.seq (.assign 8 (.var 5)) (.seq (.ite (.and (.op .lt (.cons (.var 8) (.cons (.var 6) .nil))) (.op .eq (.cons (.op .index (.cons (.var 0) (.cons (.var 8) .nil))) (.cons (.const (.str [33])) .nil)))) (.seq (.assign 8 (.op .add (.cons (.var 8) (.cons (.const (.int 1)) .nil)))) .skip) .skip) (.seq (.ite (.and (.op .lt (.cons (.var 8) (.cons (.var 6) .nil))) (.op .eq (.cons (.op .index (.cons (.var 0) (.cons (.var 8) .nil))) (.cons (.const (.str [93])) .nil)))) (.seq (.assign 8 (.op .add (.cons (.var 8) (.cons (.const (.int 1)) .nil)))) .skip) .skip) (.seq (.while (.and (.op .lt (.cons (.var 8) (.cons (.var 6) .nil))) (.op .ne (.cons (.op .index (.cons (.var 0) (.cons (.var 8) .nil))) (.cons (.const (.str [93])) .nil)))) (.seq (.assign 8 (.op .add (.cons (.var 8) (.cons (.const (.int 1)) .nil)))) .skip)) (.seq (.ite (.op .ge (.cons (.var 8) (.cons (.var 6) .nil))) (.seq (.appendVia 4 3 (.const (.str [92, 91]))) .skip) (.seq (.assign 9 (.op .slice (.cons (.var 0) (.cons (.var 5) (.cons (.var 8) .nil))))) (.seq (.ite (.op .notin (.cons (.const (.str [45])) (.cons (.var 9) .nil))) (.seq (.assign 9 (.op .replace (.cons (.var 9) (.cons (.const (.str [92])) (.cons (.const (.str [92, 92])) .nil))))) .skip) (.seq (.assignO 10 (.list .nil)) (.seq (.assign 11 (.ite (.op .eq (.cons (.op .index (.cons (.var 0) (.cons (.var 5) .nil))) (.cons (.const (.str [33])) .nil))) (.op .add (.cons (.var 5) (.cons (.const (.int 2)) .nil))) (.op .add (.cons (.var 5) (.cons (.const (.int 1)) .nil))))) (.seq (.while (.const (.bool true)) (.seq (.assign 11 (.op .find4 (.cons (.var 0) (.cons (.const (.str [45])) (.cons (.var 11) (.cons (.var 8) .nil)))))) (.seq (.ite (.op .lt (.cons (.var 11) (.cons (.const (.int 0)) .nil))) (.seq .brk .skip) .skip) (.seq (.append 10 (.op .slice (.cons (.var 0) (.cons (.var 5) (.cons (.var 11) .nil))))) (.seq (.assign 5 (.op .add (.cons (.var 11) (.cons (.const (.int 1)) .nil)))) (.seq (.assign 11 (.op .add (.cons (.var 11) (.cons (.const (.int 3)) .nil)))) .skip)))))) (.seq (.assign 12 (.op .slice (.cons (.var 0) (.cons (.var 5) (.cons (.var 8) .nil))))) (.seq (.ite (.var 12) (.seq (.append 10 (.var 12)) .skip) dead) (.seq (.forE 11 (.rangeI (.cons (.op .sub (.cons (.op .len (.cons (.var 10) .nil)) (.cons (.const (.int 1)) .nil))) (.cons (.const (.int 0)) (.cons (.op .neg (.cons (.const (.int 1)) .nil)) .nil)))) (.seq (.ite (.op .gt (.cons (.op .index (.cons (.op .index (.cons (.var 10) (.cons (.op .sub (.cons (.var 11) (.cons (.const (.int 1)) .nil))) .nil))) (.cons (.op .neg (.cons (.const (.int 1)) .nil)) .nil))) (.cons (.op .index (.cons (.op .index (.cons (.var 10) (.cons (.var 11) .nil))) (.cons (.const (.int 0)) .nil))) .nil))) dead .skip) .skip)) (.seq (.seq (.fz 10) (.assign 9 (.op .join (.cons (.const (.str [45])) (.cons (.comp 13 (.seqI (.var 10)) (.const (.bool true)) (repX 13 [92] [92, 92] [45] [92, 45])) .nil))))) .skip)))))))) (.seq (.assign 9 (.op .resub0 (.cons (.var 9) .nil))) (.seq (.assign 5 (.op .add (.cons (.var 8) (.cons (.const (.int 1)) .nil)))) (.seq (.ite (.not (.var 9)) (.seq (.appendVia 4 3 (.const (.str [40, 63, 33, 41]))) .skip) (.seq (.ite (.op .eq (.cons (.var 9) (.cons (.const (.str [33])) .nil))) (.seq (.appendVia 4 3 (.const (.str [46]))) .skip) (.seq (.ite (.op .eq (.cons (.op .index (.cons (.var 9) (.cons (.const (.int 0)) .nil))) (.cons (.const (.str [33])) .nil))) (.seq (.assign 9 (.op .add (.cons (.const (.str [94])) (.cons (.op .slice (.cons (.var 9) (.cons (.const (.int 1)) (.cons (.const .none) .nil)))) .nil)))) .skip) (.seq (.ite (.op .in_ (.cons (.op .index (.cons (.var 9) (.cons (.const (.int 0)) .nil))) (.cons (.tup (.cons (.const (.str [94])) (.cons (.const (.str [91])) .nil))) .nil))) (.seq (.assign 9 (.op .add (.cons (.const (.str [92])) (.cons (.var 9) .nil)))) .skip) .skip) .skip)) (.seq (.appendVia 4 3 (.op .fmt (.cons (.const (.str [91])) (.cons (.var 9) (.cons (.const (.str [93])) .nil))))) .skip))) .skip)) .skip)))))) .skip))))) (.seq (.appendVia 4 3 (.call 0 (.cons (.var 7) .nil))) .skip)) .skip)) .skip)) .skip)))) (.seq (.assert (.op .eq (.cons (.var 5) (.cons (.var 6) .nil)))) (.seq (.seq (.fz 3) (.ret (.var 3))) .skip))))))
noncomputable def fn_translate2 : Fn := { np := 3, va := false, ns := 14, body := s_translate2 }
noncomputable def s_law_by_names : S := (.seq (.assign 4 (.call 20 (.cons (.var 0) .nil))) (.seq (.ite (.op .ne (.cons (.op .len (.cons (.var 4) .nil)) (.cons (.op .len (.cons (.var 1) .nil)) .nil))) (.seq (.ret (.const (.bool false))) .skip) .skip) (.seq (.forE 5 (.rangeI (.cons (.op .len (.cons (.var 1) .nil)) .nil)) (.seq (guard (cpreP cp02 (.op .index (.cons (.var 4) (.cons (.var 5) .nil))) 2 3)) (.seq (.ite (.not (.call 15 (.cons (tcall cp02 (.op .index (.cons (.var 4) (.cons (.var 5) .nil))) 2) (.cons (.var 2) (.cons (.op .index (.cons (.var 1) (.cons (.var 5) .nil))) .nil))))) (.seq (.ret (.const (.bool false))) .skip) .skip) .skip))) (.seq (.ret (.const (.bool true))) .skip))))
noncomputable def fn_law_by_names : Fn := { np := 4, va := false, ns := 6, body := s_law_by_names }
noncomputable def s_law : S := (.seq (.assign 4 (.comp 17 (.rangeI (.cons (.const (.int 8)) .nil)) (.const (.bool true)) (.op .abs (.cons (.op .sum (.cons (.op .slice3 (.cons (.var 0) (.cons (.var 17) (.cons (.const .none) (.cons (.const (.int 8)) .nil))))) .nil)) .nil)))) (.seq (.assignO 6 (.list .nil)) (.seq (.forE 3 (.rangeI (.cons (.const (.int 3)) .nil)) (.seq (.assign 7 (.op .add (.cons (.op .index (.cons (.var 4) (.cons (.var 3) .nil))) (.cons (.op .index (.cons (.tup (.cons (.const (.int 7)) (.cons (.const (.int 2157)) (.cons (.const (.int 323)) .nil)))) (.cons (.var 3) .nil))) .nil)))) (.seq (.assignO 8 (.list .nil)) (.seq (.forE 9 (.rangeI (.cons (.const (.int 5)) .nil)) (.seq (.ite (.or (.op .gt (.cons (.var 7) (.cons (.const (.int 0)) .nil))) (.op .eq (.cons (.var 8) (.cons (.list .nil) .nil)))) (.seq (.assign 10 (.op .index (.cons (.tup (.cons (.const (.str [42])) (.cons (.const (.str [97])) (.cons (.const (.str [63])) (.cons (.const (.str [47])) (.cons (.const (.str [91, 33, 97, 93])) (.cons (.const (.str [91, 97, 45, 98, 93])) (.cons (.const (.str [98])) .nil)))))))) (.cons (.op .mod (.cons (.var 7) (.cons (.const (.int 7)) .nil))) .nil)))) (.seq (.ite (.or (.op .ne (.cons (.var 10) (.cons (.const (.str [42])) .nil))) (.or (.op .notin (.cons (.const (.str [42])) (.cons (.var 8) .nil))) (.and (.op .lt (.cons (.op .count (.cons (.var 8) (.cons (.const (.str [42])) .nil))) (.cons (.const (.int 2)) .nil))) (.op .ne (.cons (.op .index (.cons (.var 8) (.cons (.op .neg (.cons (.const (.int 1)) .nil)) .nil))) (.cons (.const (.str [42])) .nil)))))) (.seq (.append 8 (.var 10)) .skip) .skip) (.seq (.assign 7 (.op .fdiv (.cons (.var 7) (.cons (.const (.int 7)) .nil)))) .skip))) .skip) .skip)) (.seq (.seq (.fz 8) (.append 6 (.var 8))) .skip))))) (.seq (.seq (.fz 6) (.seq (.fz 8) (.assign 11 (.comp 18 (.seqI (.var 6)) (.const (.bool true)) (.call 1 (.cons (.op .join (.cons (.const (.str [])) (.cons (.var 18) .nil))) (.cons (.var 1) (.cons (.const (.str [46])) .nil)))))))) (.seq (.forE 3 (.rangeI (.cons (.const (.int 5)) .nil)) (.seq (.assign 7 (.op .add (.cons (.op .index (.cons (.var 4) (.cons (.op .add (.cons (.const (.int 3)) (.cons (.var 3) .nil))) .nil))) (.cons (.op .index (.cons (.tup (.cons (.const (.int 0)) (.cons (.const (.int 5)) (.cons (.const (.int 38)) (.cons (.const (.int 60)) (.cons (.const (.int 99)) .nil)))))) (.cons (.var 3) .nil))) .nil)))) (.seq (.assignO 12 (.list .nil)) (.seq (.forE 9 (.rangeI (.cons (.const (.int 3)) .nil)) (.seq (.ite (.or (.op .gt (.cons (.var 7) (.cons (.const (.int 0)) .nil))) (.op .eq (.cons (.var 12) (.cons (.list .nil) .nil)))) (.seq (.append 12 (.op .index (.cons (.tup (.cons (.const (.str [97])) (.cons (.const (.str [98])) (.cons (.const (.str [97, 98])) (.cons (.const (.str [98, 97])) (.cons (.const (.str [98, 98])) .nil)))))) (.cons (.op .mod (.cons (.var 7) (.cons (.const (.int 5)) .nil))) .nil)))) (.seq (.assign 7 (.op .fdiv (.cons (.var 7) (.cons (.const (.int 5)) .nil)))) .skip)) .skip) .skip)) (.seq (.seq (.fz 12) (.assign 13 (.call 4 (.star (.var 12))))) (.seq (.ite (.op .ne (.cons (.call 20 (.cons (.var 13) .nil)) (.cons (.op .slice3 (.cons (.var 12) (.cons (.const .none) (.cons (.const .none) (.cons (.op .neg (.cons (.const (.int 1)) .nil)) .nil))))) .nil))) (.seq (.ret (.const (.bool false))) .skip) .skip) (.seq (.forE 14 (.rangeI (.cons (.const (.int 3)) .nil)) (.seq (.assign 15 (.call 15 (.cons (.op .index (.cons (.var 11) (.cons (.var 14) .nil))) (.cons (.var 1) (.cons (.var 13) .nil))))) (.seq (.seq (.fz 12) (.seq (.fz 6) (.assign 16 (.comp 19 (.seqI (.call 21 (.cons (.op .index (.cons (.var 6) (.cons (.var 14) .nil))) (.cons (.op .sub (.cons (.op .len (.cons (.var 12) .nil)) (.cons (.const (.int 1)) .nil))) .nil)))) (.call 22 (.cons (.var 19) (.cons (.op .slice3 (.cons (.var 12) (.cons (.const .none) (.cons (.const .none) (.cons (.op .neg (.cons (.const (.int 1)) .nil)) .nil))))) (.cons (.var 1) (.cons (.var 2) .nil))))) (.const (.int 1)))))) (.seq (.ite (.op .ne (.cons (.var 15) (.cons (.op .ne (.cons (.var 16) (.cons (.list .nil) .nil))) .nil))) (.seq (.ret (.const (.bool false))) .skip) .skip) .skip)))) .skip))))))) (.seq (.ret (.const (.bool true))) .skip))))))
noncomputable def fn_law : Fn := { np := 1, va := false, ns := 20, body := s_law }
end Mine
end
section W02x
open PySem PySem.Calls PyProof.Rows PySem.Builtin.Str
set_option maxHeartbeats 4000000
namespace Mine
open PySem.Str renaming ofString → os
noncomputable abbrev NN (x : String) : Prop := (os x == os "__classdict__") = false ∧ (os x == os "__debug__") = false
noncomputable abbrev VL (s : Sc) (x : String) (i : Nat) : Prop := s.vars.lookup (os x) = some i
noncomputable abbrev KL (s : Sc) (x : String) (k : NameKind) : Prop := s.kinds.lookup (os x) = some k
theorem nLoc {s : Sc} {x : String} (h : KL s x .local) : s.kinds.lookup (os x) ≠ some .free := nfree h
theorem sVar {cx : XCx} {s : Sc} {x : String} {i : Nat} {pos : Pos} (h : VL s x i) (n : NN x) : Sound cx s (.Name (os x) pos) (.var i) := zh7 h n.1 n.2
theorem zdy : NN "QUESTION_MARK" := ⟨rfl, rfl⟩
theorem ziy : NN "STAR" := ⟨rfl, rfl⟩
theorem nn_a : NN "a" := ⟨rfl, rfl⟩
theorem nn_add : NN "add" := ⟨rfl, rfl⟩
theorem nn_at : NN "at" := ⟨rfl, rfl⟩
theorem nn_b : NN "b" := ⟨rfl, rfl⟩
theorem zfE : NN "barred" := ⟨rfl, rfl⟩
theorem zcr : NN "body" := ⟨rfl, rfl⟩
theorem nn_c : NN "c" := ⟨rfl, rfl⟩
theorem zgY : NN "chunk" := ⟨rfl, rfl⟩
theorem nn_chunks : NN "chunks" := ⟨rfl, rfl⟩
theorem zdF : NN "first" := ⟨rfl, rfl⟩
theorem zjT : NN "found" := ⟨rfl, rfl⟩
theorem zcO : NN "head" := ⟨rfl, rfl⟩
theorem nn_high : NN "high" := ⟨rfl, rfl⟩
theorem nn_i : NN "i" := ⟨rfl, rfl⟩
theorem zix : NN "item" := ⟨rfl, rfl⟩
theorem nn_items : NN "items" := ⟨rfl, rfl⟩
theorem nn_j : NN "j" := ⟨rfl, rfl⟩
theorem nn_k : NN "k" := ⟨rfl, rfl⟩
theorem nn_kind : NN "kind" := ⟨rfl, rfl⟩
theorem zdc : NN "left" := ⟨rfl, rfl⟩
theorem nn_lists : NN "lists" := ⟨rfl, rfl⟩
theorem zkz : NN "low" := ⟨rfl, rfl⟩
theorem nn_n : NN "n" := ⟨rfl, rfl⟩
theorem zeZ : NN "name" := ⟨rfl, rfl⟩
theorem nn_names : NN "names" := ⟨rfl, rfl⟩
theorem nn_out : NN "out" := ⟨rfl, rfl⟩
theorem nn_p : NN "p" := ⟨rfl, rfl⟩
theorem zcq : NN "part" := ⟨rfl, rfl⟩
theorem zjS : NN "parts" := ⟨rfl, rfl⟩
theorem zcB : NN "pat" := ⟨rfl, rfl⟩
theorem nn_path : NN "path" := ⟨rfl, rfl⟩
theorem zez : NN "pattern" := ⟨rfl, rfl⟩
theorem nn_patterns : NN "patterns" := ⟨rfl, rfl⟩
theorem nn_res : NN "res" := ⟨rfl, rfl⟩
theorem zeY : NN "rest" := ⟨rfl, rfl⟩
theorem ziw : NN "script" := ⟨rfl, rfl⟩
theorem zey : NN "sep" := ⟨rfl, rfl⟩
theorem zgo : NN "sign" := ⟨rfl, rfl⟩
theorem zbH : NN "slashes" := ⟨rfl, rfl⟩
theorem nn_some : NN "some" := ⟨rfl, rfl⟩
theorem zdb : NN "star" := ⟨rfl, rfl⟩
theorem zbM : NN "stuff" := ⟨rfl, rfl⟩
theorem ziv : NN "sums" := ⟨rfl, rfl⟩
theorem ziu : NN "tail" := ⟨rfl, rfl⟩
theorem nn_tails : NN "tails" := ⟨rfl, rfl⟩
theorem zcN : NN "text" := ⟨rfl, rfl⟩
theorem zjR : NN "whole" := ⟨rfl, rfl⟩
theorem zit : NN "wholes" := ⟨rfl, rfl⟩
noncomputable abbrev fs02 : List (Str × Nat) := [(os "escape", 0), (os "_translate", 1), (os "fspath", 2), (os "_get_sep", 3), (os "join", 4), (os "split", 5), (os "_law_one", 14), (os "_law_takes", 15), (os "_law_climb", 20), (os "_law_spread", 21), (os "_law_by_names", 22), (os "law", 35)]
noncomputable abbrev bs02 : List Str := [os "str", os "bytes", os "list", os "tuple", os "len", os "abs", os "sum", os "isinstance", os "issubclass", os "type", os "range", os "min", os "max", os "sorted", os "map", os "enumerate"]
noncomputable abbrev lamPos02 : Pos := ⟨61, 39, 61, 76⟩
noncomputable abbrev qs02 : List (Pos × Str) := [(lamPos02, (PySem.Str.ofString "_translate.<locals>.") ++ "<lambda>")]
variable {cx : XCx} (N : GN cx fs02 bs02)
include N
theorem zfR : cx.mg (os "_get_sep") = some (.ref (cx.fa 3)) := N.fi 3 rfl
theorem zej : cx.mg (os "_law_by_names") = some (.ref (cx.fa 22)) := N.fi 10 rfl
theorem zd6 : cx.mg (os "_law_climb") = some (.ref (cx.fa 20)) := N.fi 8 rfl
theorem ziS : cx.mg (os "_law_one") = some (.ref (cx.fa 14)) := N.fi 6 rfl
theorem zbR : cx.mg (os "_law_spread") = some (.ref (cx.fa 21)) := N.fi 9 rfl
theorem zd5 : cx.mg (os "_law_takes") = some (.ref (cx.fa 15)) := N.fi 7 rfl
theorem zd4 : cx.mg (os "_translate") = some (.ref (cx.fa 1)) := N.fi 1 rfl
theorem zkb : cx.mg (os "escape") = some (.ref (cx.fa 0)) := N.fi 0 rfl
theorem ze8 : cx.mg (os "fspath") = some (.ref (cx.fa 2)) := N.fi 2 rfl
theorem f_join : cx.mg (os "join") = some (.ref (cx.fa 4)) := N.fi 4 rfl
theorem ziR : cx.mg (os "split") = some (.ref (cx.fa 5)) := N.fi 5 rfl
theorem b_abs : cx.mg (os "abs") = none := N.bi 5 rfl
theorem zjg : cx.mg (os "bytes") = none := N.bi 1 rfl
theorem zdu : cx.mg (os "isinstance") = none := N.bi 7 rfl
theorem zf0 : cx.mg (os "issubclass") = none := N.bi 8 rfl
theorem b_len : cx.mg (os "len") = none := N.bi 4 rfl
theorem b_list : cx.mg (os "list") = none := N.bi 2 rfl
theorem zb8 : cx.mg (os "range") = none := N.bi 10 rfl
theorem b_str : cx.mg (os "str") = none := N.bi 0 rfl
theorem b_sum : cx.mg (os "sum") = none := N.bi 6 rfl
theorem b_type : cx.mg (os "type") = none := N.bi 9 rfl
omit N
noncomputable def sc_escape : Sc := { kinds := [(os "pattern", .local), (os "isinstance", .globalImplicit), (os "str", .globalImplicit), (os "_special_chars_map", .globalImplicit)], vars := [(os "pattern", 0)] }
theorem zhq {cx : XCx} (N : GN cx fs02 bs02) (TG : TabG cx) (sp : cx.mg (PySem.Str.ofString "_special_chars_map") = some (.ref TG.d)) : SoundSs cx sc_escape (nthBody PySem.Challenge.pw_dn0069_02 5) s_escape := by
  unfold s_escape
  exact (zaa (zaj (zar rfl (zdu N) (by decide) rfl (.builtin _) rfl (.cons (sVar rfl zez) rfl (.cons (zb1 rfl (b_str N) (by decide) rfl rfl) rfl .nil)) zfB) (zaa (zaq (zdP TG rfl rfl (sVar rfl zez) rfl sp rfl))
  zac) zbO)
  zac)
noncomputable def sc_translate2 (c : Addr) : Sc := { kinds := [(os "pat", .local), (os "STAR", .local), (os "QUESTION_MARK", .local), (os "res", .local), (os "add", .local), (os "i", .local), (os "n", .local), (os "c", .local), (os "j", .local), (os "stuff", .local), (os "chunks", .local), (os "k", .local), (os "chunk", .local), (os "len", .globalImplicit), (os "range", .globalImplicit), (os "_twin_re_1", .globalImplicit), (os "escape", .globalImplicit)], vars := [(os "pat", 0), (os "STAR", 1), (os "QUESTION_MARK", 2), (os "res", 3), (os "add", 4), (os "i", 5), (os "n", 6), (os "c", 7), (os "j", 8), (os "stuff", 9), (os "chunks", 10), (os "k", 11), (os "chunk", 12)], code := some (c, PySem.Str.ofString "_translate.<locals>.") }
theorem zee {cx : XCx} (N : GN cx fs02 bs02) (G : LamG cx) (PG : PatG cx) (tw : cx.mg (PySem.Str.ofString "_twin_re_1") = some (.ref PG.P)) (hq : G.qs = qs02) : SoundSs cx (sc_translate2 G.c) (nthBody PySem.Challenge.pw_dn0069_02 7) s_translate2 := by
  unfold s_translate2
  exact (zaa (zbb rfl (nLoc rfl) (zaN .nil) (fun _ _ _ => rfl))
  (zaa (zfz rfl (nLoc rfl) rfl nn_res.1 nn_res.2)
  (zaa (zdj rfl rfl (nLoc rfl) (nLoc rfl) (by decide) (zbC (.cons (zab rfl) rfl (.cons (zar rfl (b_len N) (by decide) rfl (.builtin _) rfl (.cons (sVar rfl zcB) rfl .nil) zck) rfl .nil))) (fun _ => rfl) (zgE rfl rfl rfl rfl rfl rfl rfl rfl))
  (zaa (zbP (zae (sVar rfl nn_i) (sVar rfl nn_n) op_lt rfl) (zaa (zad rfl (nLoc rfl) (zag (sVar rfl zcB) (sVar rfl nn_i)) (fun _ _ _ => rfl))
  (zaa (zad rfl (nLoc rfl) (zah (sVar rfl nn_i) (zab rfl) za2) (fun _ _ _ => rfl))
  (zaa (zaj (zae (sVar rfl nn_c) (zab rfl) op_eq rfl) (zaa (zaj (zaO (.or (zcV (sVar rfl nn_res)) (.one (zae (zag (sVar rfl nn_res) (zb0 (zab rfl) zdo (fun h => nomatch h))) (sVar rfl ziy) zjF rfl)))) (zaa (zaV rfl (show VL _ "res" 3 from rfl) nn_add.1 nn_add.2 (sVar rfl ziy) rfl)
  zac) zac)
  zac) (zaa (zaj (zae (sVar rfl nn_c) (zab rfl) op_eq rfl) (zaa (zaV rfl (show VL _ "res" 3 from rfl) nn_add.1 nn_add.2 (sVar rfl zdy) rfl)
  zac) (zaa (zaj (zae (sVar rfl nn_c) (zab rfl) op_eq rfl) (zaa (zad rfl (nLoc rfl) (sVar rfl nn_i) (fun _ _ _ => rfl))
  (zaa (zaj (zaO (.and (zae (sVar rfl nn_j) (sVar rfl nn_n) op_lt rfl) (.one (zae (zag (sVar rfl zcB) (sVar rfl nn_j)) (zab rfl) op_eq rfl)))) (zaa (zad rfl (nLoc rfl) (zah (sVar rfl nn_j) (zab rfl) za2) (fun _ _ _ => rfl))
  zac) zac)
  (zaa (zaj (zaO (.and (zae (sVar rfl nn_j) (sVar rfl nn_n) op_lt rfl) (.one (zae (zag (sVar rfl zcB) (sVar rfl nn_j)) (zab rfl) op_eq rfl)))) (zaa (zad rfl (nLoc rfl) (zah (sVar rfl nn_j) (zab rfl) za2) (fun _ _ _ => rfl))
  zac) zac)
  (zaa (zbP (zaO (.and (zae (sVar rfl nn_j) (sVar rfl nn_n) op_lt rfl) (.one (zae (zag (sVar rfl zcB) (sVar rfl nn_j)) (zab rfl) op_ne rfl)))) (zaa (zad rfl (nLoc rfl) (zah (sVar rfl nn_j) (zab rfl) za2) (fun _ _ _ => rfl))
  zac))
  (zaa (zaj (zae (sVar rfl nn_j) (sVar rfl nn_n) op_ge rfl) (zaa (zaV rfl (show VL _ "res" 3 from rfl) nn_add.1 nn_add.2 (zab rfl) rfl)
  zac) (zaa (zad rfl (nLoc rfl) (za1 (sVar rfl zcB) (.yes (sVar rfl nn_i)) (.yes (sVar rfl nn_j))) (fun _ _ _ => rfl))
  (zaa (zaj (zae (zab rfl) (sVar rfl zbM) zgU rfl) (zaa (zad rfl (nLoc rfl) (ziE rfl rfl (by decide) (sVar rfl zbM) (.cons (zab rfl) rfl (.cons (zab rfl) rfl .nil))) (fun _ _ _ => rfl))
  zac) (zaa (zbb rfl (nLoc rfl) (zaN .nil) (fun _ _ _ => rfl))
  (zaa (zad rfl (nLoc rfl) (zcp (zae (zag (sVar rfl zcB) (sVar rfl nn_i)) (zab rfl) op_eq rfl) (zah (sVar rfl nn_i) (zab rfl) za2) (zah (sVar rfl nn_i) (zab rfl) za2)) (fun _ _ _ => rfl))
  (zaa (zbP (zab rfl) (zaa (zad rfl (nLoc rfl) (m_find rfl rfl (by decide) (sVar rfl zcB) (.cons (zab rfl) rfl (.cons (sVar rfl nn_k) rfl (.cons (sVar rfl nn_j) rfl .nil)))) (fun _ _ _ => rfl))
  (zaa (zaj (zae (sVar rfl nn_k) (zab rfl) op_lt rfl) (zaa zfy
  zac) zac)
  (zaa (zbi rfl nn_chunks.1 nn_chunks.2 rfl (za1 (sVar rfl zcB) (.yes (sVar rfl nn_i)) (.yes (sVar rfl nn_k))) rfl)
  (zaa (zad rfl (nLoc rfl) (zah (sVar rfl nn_k) (zab rfl) za2) (fun _ _ _ => rfl))
  (zaa (zad rfl (nLoc rfl) (zah (sVar rfl nn_k) (zab rfl) za2) (fun _ _ _ => rfl))
  zac))))))
  (zaa (zad rfl (nLoc rfl) (za1 (sVar rfl zcB) (.yes (sVar rfl nn_i)) (.yes (sVar rfl nn_j))) (fun _ _ _ => rfl))
  (zaa (zaj (sVar rfl zgY) (zaa (zbi rfl nn_chunks.1 nn_chunks.2 rfl (sVar rfl zgY) rfl)
  zac) zbO)
  (zaa (zbv rfl (nLoc rfl) (za6 rfl (zb8 N) (.cons (zah (zar rfl (b_len N) (by decide) rfl (.builtin _) rfl (.cons (sVar rfl nn_chunks) rfl .nil) zck) (zab rfl) zex) rfl (.cons (zab rfl) rfl (.cons (zb0 (zab rfl) zdo (fun h => nomatch h)) rfl .nil)))) (zaa (zaj (zae (zag (zag (sVar rfl nn_chunks) (zah (sVar rfl nn_k) (zab rfl) zex)) (zb0 (zab rfl) zdo (fun h => nomatch h))) (zag (zag (sVar rfl nn_chunks) (sVar rfl nn_k)) (zab rfl)) op_gt rfl) zbO zac)
  zac) (fun _ _ => rfl))
  (zaa (zbI ⟨os "chunks", rfl⟩ (zad rfl (nLoc rfl) (zeQ G rfl rfl rfl rfl rfl rfl (by decide) (by decide) rfl (apart1 hq rfl) (zbm (sVar rfl nn_chunks)) (fun _ _ => rfl) rfl (by decide) (by decide) rfl rfl rfl rfl) (fun _ _ _ => rfl)))
  zac))))))))
  (zaa (zad rfl (nLoc rfl) (zfx G PG rfl tw rfl rfl (by rw [hq]; exact .head _) rfl rfl rfl (sVar rfl zbM)) (fun _ _ _ => rfl))
  (zaa (zad rfl (nLoc rfl) (zah (sVar rfl nn_j) (zab rfl) za2) (fun _ _ _ => rfl))
  (zaa (zaj (zcV (sVar rfl zbM)) (zaa (zaV rfl (show VL _ "res" 3 from rfl) nn_add.1 nn_add.2 (zab (by kernel_rfl)) rfl)
  zac) (zaa (zaj (zae (sVar rfl zbM) (zab rfl) op_eq rfl) (zaa (zaV rfl (show VL _ "res" 3 from rfl) nn_add.1 nn_add.2 (zab rfl) rfl)
  zac) (zaa (zaj (zae (zag (sVar rfl zbM) (zab rfl)) (zab rfl) op_eq rfl) (zaa (zad rfl (nLoc rfl) (zah (zab rfl) (za1 (sVar rfl zbM) (.yes (zab rfl)) .no) za2) (fun _ _ _ => rfl))
  zac) (zaa (zaj (zae (zag (sVar rfl zbM) (zab rfl)) (zbC (.cons (zab rfl) rfl (.cons (zab rfl) rfl .nil))) op_in rfl) (zaa (zad rfl (nLoc rfl) (zah (zab rfl) (sVar rfl zbM) za2) (fun _ _ _ => rfl))
  zac) zac)
  zac))
  (zaa (zaV rfl (show VL _ "res" 3 from rfl) nn_add.1 nn_add.2 (zh8 (sVar rfl zbM) rfl rfl) rfl)
  zac)))
  zac))
  zac))))))
  zac))))) (zaa (zaV rfl (show VL _ "res" 3 from rfl) nn_add.1 nn_add.2 (zap rfl (zkb N) rfl (.cons (sVar rfl nn_c) rfl .nil)) rfl)
  zac))
  zac))
  zac))
  zac))))
  (zaa (zeR (zae (sVar rfl nn_i) (sVar rfl nn_n) op_eq rfl))
  (zaa (zbI ⟨os "res", rfl⟩ (zaq (sVar rfl nn_res)))
  zac))))))
noncomputable def sc_fspath : Sc := { kinds := [(os "path", .local), (os "kind", .local), (os "hook", .local), (os "given", .local), (os "type", .globalImplicit), (os "issubclass", .globalImplicit), (os "str", .globalImplicit), (os "bytes", .globalImplicit), (os "_abc_plain_meta", .globalImplicit), (os "getattr", .globalImplicit), (os "TypeError", .globalImplicit), (os "_plain_name", .globalImplicit), (os "_wall", .globalImplicit), (os "len", .globalImplicit)], vars := [(os "path", 0), (os "kind", 1), (os "hook", 2), (os "given", 3)] }
theorem zhp {cx : XCx} (N : GN cx fs02 bs02) : SoundSs cx sc_fspath (nthBody PySem.Challenge.pw_dn0069_02 16) s_fspath := by
  unfold s_fspath
  exact (zaa (zad rfl (nLoc rfl) (zar rfl (b_type N) (by decide) rfl (.type _) rfl (.cons (sVar rfl nn_path) rfl .nil) op_tyOf) (fun _ _ _ => rfl))
  (zaa (zaj (zar rfl (zf0 N) (by decide) rfl (.builtin _) rfl (.cons (sVar rfl nn_kind) rfl (.cons (zbC (.cons (zb1 rfl (b_str N) (by decide) rfl rfl) rfl (.cons (zb1 rfl (zjg N) (by decide) rfl rfl) rfl .nil))) rfl .nil)) zjG) (zaa (zaq (sVar rfl nn_path))
  zac) zac)
  zbO))
noncomputable def sc_get_sep : Sc := { kinds := [(os "path", .local), (os "isinstance", .globalImplicit), (os "bytes", .globalImplicit)], vars := [(os "path", 0)] }
theorem zgd {cx : XCx} (N : GN cx fs02 bs02) : SoundSs cx sc_get_sep (nthBody PySem.Challenge.pw_dn0069_02 20) s_get_sep := by
  unfold s_get_sep
  exact (zaa (zaj (zar rfl (zdu N) (by decide) rfl (.builtin _) rfl (.cons (sVar rfl nn_path) rfl (.cons (zb1 rfl (zjg N) (by decide) rfl rfl) rfl .nil)) zfB) zbO (zaa (zaq (zab rfl))
  zac))
  zac)
noncomputable def sc_join : Sc := { kinds := [(os "a", .local), (os "p", .local), (os "sep", .local), (os "path", .local), (os "b", .local), (os "fspath", .globalImplicit), (os "_get_sep", .globalImplicit), (os "TypeError", .globalImplicit), (os "AttributeError", .globalImplicit), (os "BytesWarning", .globalImplicit), (os "_check_arg_types", .globalImplicit)], vars := [(os "a", 0), (os "p", 1), (os "sep", 2), (os "path", 3), (os "b", 4)] }
theorem zjw {cx : XCx} (N : GN cx fs02 bs02) : SoundSs cx sc_join (nthBody PySem.Challenge.pw_dn0069_02 21) s_join := by
  unfold s_join
  exact (zaa (zad rfl (nLoc rfl) (zap rfl (ze8 N) rfl (.cons (sVar rfl nn_a) rfl .nil)) (fun _ _ _ => rfl))
  (zaa (zad rfl (nLoc rfl) (zap rfl (zfR N) rfl (.cons (sVar rfl nn_a) rfl .nil)) (fun _ _ _ => rfl))
  (zaa (zad rfl (nLoc rfl) (sVar rfl nn_a) (fun _ _ _ => rfl))
  (zaa (zho (zaa (zbv rfl (nLoc rfl) (zbm (sVar rfl nn_p)) (zaa (zad rfl (nLoc rfl) (zap rfl (ze8 N) rfl (.cons (sVar rfl nn_b) rfl .nil)) (fun _ _ _ => rfl))
  (zaa (zaj (zaO (.or (zfI rfl rfl (by decide) (sVar rfl nn_b) (.cons (sVar rfl zey) rfl .nil)) (.one (zcV (sVar rfl nn_path))))) (zaa (zad rfl (nLoc rfl) (sVar rfl nn_b) (fun _ _ _ => rfl))
  zac) (zaa (zaj (zhy rfl rfl (by decide) (sVar rfl nn_path) (.cons (sVar rfl zey) rfl .nil)) (zaa (zes rfl (nLoc rfl) nn_path.1 (sVar rfl nn_b))
  zac) (zaa (zes rfl (nLoc rfl) nn_path.1 (zah (sVar rfl zey) (sVar rfl nn_b) za2))
  zac))
  zac))
  zac)) (fun _ _ => rfl))
  zac))
  (zaa (zaq (sVar rfl nn_path))
  zac)))))
noncomputable def sc_split : Sc := { kinds := [(os "p", .local), (os "sep", .local), (os "i", .local), (os "head", .local), (os "tail", .local), (os "fspath", .globalImplicit), (os "_get_sep", .globalImplicit), (os "len", .globalImplicit)], vars := [(os "p", 0), (os "sep", 1), (os "i", 2), (os "head", 3), (os "tail", 4)] }
theorem zh9 {cx : XCx} (N : GN cx fs02 bs02) : SoundSs cx sc_split (nthBody PySem.Challenge.pw_dn0069_02 22) s_split := by
  unfold s_split
  exact (zaa (zad rfl (nLoc rfl) (zap rfl (ze8 N) rfl (.cons (sVar rfl nn_p) rfl .nil)) (fun _ _ _ => rfl))
  (zaa (zad rfl (nLoc rfl) (zap rfl (zfR N) rfl (.cons (sVar rfl nn_p) rfl .nil)) (fun _ _ _ => rfl))
  (zaa (zad rfl (nLoc rfl) (zah (m_rfind rfl rfl (by decide) (sVar rfl nn_p) (.cons (sVar rfl zey) rfl .nil)) (zab rfl) za2) (fun _ _ _ => rfl))
  (zaa (zdj rfl rfl (nLoc rfl) (nLoc rfl) (by decide) (zbC (.cons (za1 (sVar rfl nn_p) .no (.yes (sVar rfl nn_i))) rfl (.cons (za1 (sVar rfl nn_p) (.yes (sVar rfl nn_i)) .no) rfl .nil))) (fun _ => rfl) (zgE rfl rfl rfl rfl rfl rfl rfl rfl))
  (zaa (zaj (zaO (.and (sVar rfl zcO) (.one (zae (sVar rfl zcO) (zah (sVar rfl zey) (zar rfl (b_len N) (by decide) rfl (.builtin _) rfl (.cons (sVar rfl zcO) rfl .nil) zck) zkt) op_ne rfl)))) (zaa (zad rfl (nLoc rfl) (zjV rfl rfl (by decide) (sVar rfl zcO) (.cons (sVar rfl zey) rfl .nil)) (fun _ _ _ => rfl))
  zac) zac)
  (zaa (zaq (zbC (.cons (sVar rfl zcO) rfl (.cons (sVar rfl ziu) rfl .nil))))
  zac))))))
noncomputable def sc_law_one : Sc := { kinds := [(os "part", .local), (os "sign", .local), (os "body", .local), (os "barred", .local), (os "k", .local), (os "found", .local), (os "low", .local), (os "high", .local), (os "len", .globalImplicit)], vars := [(os "part", 0), (os "sign", 1), (os "body", 2), (os "barred", 3), (os "k", 4), (os "found", 5), (os "low", 6), (os "high", 7)] }
theorem zgc {cx : XCx} (N : GN cx fs02 bs02) : SoundSs cx sc_law_one (nthBody PySem.Challenge.pw_dn0069_02 24) s_law_one := by
  unfold s_law_one
  exact (zaa (zaj (zaO (.or (zae (sVar rfl zcq) (zab rfl) op_eq rfl) (.one (zae (sVar rfl zcq) (zab (by kernel_rfl)) op_eq rfl)))) (zaa (zaq (zae (sVar rfl zcq) (zab rfl) op_eq rfl))
  zac) zac)
  (zaa (zaj (zae (zag (sVar rfl zcq) (zab rfl)) (zab rfl) op_ne rfl) (zaa (zaq (zae (zag (sVar rfl zcq) (zb0 (zab rfl) zdo (fun h => nomatch h))) (sVar rfl zgo) op_eq rfl))
  zac) zac)
  (zaa (zad rfl (nLoc rfl) (za1 (sVar rfl zcq) (.yes (zab rfl)) (.yes (zb0 (zab rfl) zdo (fun h => nomatch h)))) (fun _ _ _ => rfl))
  (zaa (zad rfl (nLoc rfl) (zae (zag (sVar rfl zcr) (zab rfl)) (zab rfl) op_eq rfl) (fun _ _ _ => rfl))
  (zaa (zad rfl (nLoc rfl) (zcp (sVar rfl zfE) (zab rfl) (zab rfl)) (fun _ _ _ => rfl))
  (zaa (zad rfl (nLoc rfl) (zab rfl) (fun _ _ _ => rfl))
  (zaa (zbP (zae (sVar rfl nn_k) (zar rfl (b_len N) (by decide) rfl (.builtin _) rfl (.cons (sVar rfl zcr) rfl .nil) zck) op_lt rfl) (zaa (zaj (zae (zag (sVar rfl zcr) (sVar rfl nn_k)) (zab rfl) op_eq rfl) (zaa (zad rfl (nLoc rfl) (zah (sVar rfl nn_k) (zab rfl) za2) (fun _ _ _ => rfl))
  zac) zac)
  (zaa (zad rfl (nLoc rfl) (zag (sVar rfl zcr) (sVar rfl nn_k)) (fun _ _ _ => rfl))
  (zaa (zad rfl (nLoc rfl) (sVar rfl zkz) (fun _ _ _ => rfl))
  (zaa (zad rfl (nLoc rfl) (zah (sVar rfl nn_k) (zab rfl) za2) (fun _ _ _ => rfl))
  (zaa (zaj (zaO (.and (zae (zah (sVar rfl nn_k) (zab rfl) za2) (zar rfl (b_len N) (by decide) rfl (.builtin _) rfl (.cons (sVar rfl zcr) rfl .nil) zck) op_lt rfl) (.one (zae (zag (sVar rfl zcr) (sVar rfl nn_k)) (zab rfl) op_eq rfl)))) (zaa (zad rfl (nLoc rfl) (zah (sVar rfl nn_k) (zab rfl) za2) (fun _ _ _ => rfl))
  (zaa (zaj (zae (zag (sVar rfl zcr) (sVar rfl nn_k)) (zab rfl) op_eq rfl) (zaa (zad rfl (nLoc rfl) (zah (sVar rfl nn_k) (zab rfl) za2) (fun _ _ _ => rfl))
  zac) zac)
  (zaa (zad rfl (nLoc rfl) (zag (sVar rfl zcr) (sVar rfl nn_k)) (fun _ _ _ => rfl))
  (zaa (zad rfl (nLoc rfl) (zah (sVar rfl nn_k) (zab rfl) za2) (fun _ _ _ => rfl))
  zac)))) zac)
  (zaa (zaj (zaO (.and (zae (sVar rfl zkz) (sVar rfl zgo) op_le rfl) (.one (zae (sVar rfl zgo) (sVar rfl nn_high) op_le rfl)))) (zaa (zad rfl (nLoc rfl) (zab rfl) (fun _ _ _ => rfl))
  zac) zac)
  zac)))))))
  (zaa (zaq (zae (sVar rfl zjT) (sVar rfl zfE) op_ne rfl))
  zac))))))))
noncomputable def sc_law_takes : Sc := { kinds := [(os "parts", .local), (os "star", .local), (os "name", .cell), (os "at", .local), (os "part", .cell), (os "list", .globalImplicit), (os "range", .globalImplicit), (os "len", .globalImplicit)], vars := [(os "parts", 0), (os "star", 1), (os "name", 2), (os "at", 3), (os "part", 4)] }
theorem zeT {cx : XCx} (N : GN cx fs02 bs02) : SoundSs cx sc_law_takes (nthBody PySem.Challenge.pw_dn0069_02 25) s_law_takes := by
  unfold s_law_takes
  exact (zaa (zad rfl (nLoc rfl) (zaN (.cons (zab rfl) rfl .nil)) (fun _ _ _ => rfl))
  (zaa (zbv rfl (nfree rfl) (zbm (sVar rfl zjS)) (zaa (zaj (zae (sVar rfl zcq) (sVar rfl zdb) op_is rfl) (zaa (zad rfl (nLoc rfl) (zcp (sVar rfl nn_at) (zdQ rfl (b_list N) rfl (zb8 N) (.cons (zag (sVar rfl nn_at) (zab rfl)) rfl (.cons (zah (zar rfl (b_len N) (by decide) rfl (.builtin _) rfl (.cons (sVar rfl zeZ) rfl .nil) zck) (zab rfl) za2) rfl .nil))) (zaN .nil)) (fun _ _ _ => rfl))
  zac) (zaa (zbD ⟨za5, zcF, (zbm (sVar rfl nn_at)), zbT rfl, (zfp (zaO (.and (zae (sVar rfl nn_p) (zar rfl (b_len N) (by decide) rfl (.builtin _) rfl (.cons (sVar rfl zeZ) rfl .nil) zck) op_lt rfl) (.one (zap rfl (ziS N) rfl (.cons (sVar rfl zcq) rfl (.cons (zag (sVar rfl zeZ) (sVar rfl nn_p)) rfl .nil))))))), (zah (sVar rfl nn_p) (zab rfl) za2), fun _ _ => rfl⟩ rfl (nLoc rfl) (swapC rfl rfl rfl))
  zac))
  zac) (fun _ _ => rfl))
  (zaa (zaq (zae (zar rfl (b_len N) (by decide) rfl (.builtin _) rfl (.cons (sVar rfl zeZ) rfl .nil) zck) (sVar rfl nn_at) op_in rfl))
  zac)))
noncomputable def sc_law_climb : Sc := { kinds := [(os "text", .local), (os "out", .local), (os "head", .local), (os "tail", .local), (os "split", .globalImplicit)], vars := [(os "text", 0), (os "out", 1), (os "head", 2), (os "tail", 3)] }
theorem zeU {cx : XCx} (N : GN cx fs02 bs02) : SoundSs cx sc_law_climb (nthBody PySem.Challenge.pw_dn0069_02 26) s_law_climb := by
  unfold s_law_climb
  exact (zaa (zbb rfl (nLoc rfl) (zaN .nil) (fun _ _ _ => rfl))
  (zaa (zcz rfl rfl (nLoc rfl) (nLoc rfl) (zap rfl (ziR N) rfl (.cons (sVar rfl zcN) rfl .nil)) (fun _ => rfl) (fun _ => rfl))
  (zaa (zbP (zae (sVar rfl zcO) (sVar rfl zcN) op_ne rfl) (zaa (zbi rfl nn_out.1 nn_out.2 rfl (sVar rfl ziu) rfl)
  (zaa (zad rfl (nLoc rfl) (sVar rfl zcO) (fun _ _ _ => rfl))
  (zaa (zcz rfl rfl (nLoc rfl) (nLoc rfl) (zap rfl (ziR N) rfl (.cons (sVar rfl zcN) rfl .nil)) (fun _ => rfl) (fun _ => rfl))
  zac))))
  (zaa (zaj (zae (sVar rfl zcN) (zab rfl) op_ne rfl) (zaa (zbi rfl nn_out.1 nn_out.2 rfl (sVar rfl zcN) rfl)
  zac) zac)
  (zaa (zbI ⟨os "out", rfl⟩ (zaq (sVar rfl nn_out)))
  zac)))))
noncomputable def sc_law_spread : Sc := { kinds := [(os "items", .cell), (os "slashes", .cell), (os "first", .cell), (os "out", .local), (os "range", .globalImplicit), (os "_law_spread", .globalImplicit)], vars := [(os "items", 0), (os "slashes", 1), (os "first", 2), (os "out", 3)] }
theorem zef {cx : XCx} (N : GN cx fs02 bs02) : SoundSs cx sc_law_spread (nthBody PySem.Challenge.pw_dn0069_02 27) s_law_spread := by
  unfold s_law_spread
  exact (zaa (zaj (zcV (sVar rfl nn_items)) (zaa (zaq (zcp (zae (sVar rfl zbH) (zab rfl) op_eq rfl) (zaN (.cons (zab rfl) rfl .nil)) (zaN .nil)))
  zac) zac)
  (zaa (zad rfl (nfree rfl) (zag (sVar rfl nn_items) (zab rfl)) (fun _ _ _ => rfl))
  (zaa (zaj (zae (sVar rfl zdF) (zab rfl) op_eq rfl) (zaa (zaq (zga ⟨(za6 rfl (zb8 N) (.cons (zah (sVar rfl zbH) (zab rfl) za2) rfl .nil)), zbT rfl, (zbm (zap rfl (zbR N) rfl (.cons (za1 (sVar rfl nn_items) (.yes (zab rfl)) .no) rfl (.cons (zah (sVar rfl zbH) (sVar rfl nn_k) zex) rfl .nil)))), (zah (zah (zab rfl) (zah (zab rfl) (sVar rfl nn_k) zkt) za2) (sVar rfl zeY) za2), fun _ _ => rfl, fun _ _ => rfl⟩))
  zac) zac)
  (zaa (zaj (zae (sVar rfl zdF) (zab rfl) op_eq rfl) (zaa (zaq (zcp (zae (sVar rfl zbH) (zab rfl) op_gt rfl) (zer ⟨za5, zcF, (zbm (zap rfl (zbR N) rfl (.cons (za1 (sVar rfl nn_items) (.yes (zab rfl)) .no) rfl (.cons (zah (sVar rfl zbH) (zab rfl) zex) rfl .nil)))), zbT rfl, zcm, (zah (zab rfl) (sVar rfl zeY) za2), fun _ _ => rfl⟩) (zaN .nil)))
  zac) zac)
  (zaa (zbD ⟨za5, zcF, (zbm (zap rfl (zbR N) rfl (.cons (za1 (sVar rfl nn_items) (.yes (zab rfl)) .no) rfl (.cons (sVar rfl zbH) rfl .nil)))), zbT rfl, zcm, (zah (sVar rfl zdF) (sVar rfl zeY) za2), fun _ _ => rfl⟩ rfl (nLoc rfl) (swapC rfl rfl rfl))
  (zaa (zaj (zaO (.and (zae (sVar rfl zdF) (zbC (.cons (zab rfl) rfl (.cons (zab (by kernel_rfl)) rfl .nil))) op_in rfl) (.one (zae (sVar rfl zbH) (zab rfl) op_gt rfl)))) (zaa (zad rfl (nLoc rfl) (zah (sVar rfl nn_out) (zer ⟨za5, zcF, (zbm (zap rfl (zbR N) rfl (.cons (za1 (sVar rfl nn_items) (.yes (zab rfl)) .no) rfl (.cons (zah (sVar rfl zbH) (zab rfl) zex) rfl .nil)))), zbT rfl, zcm, (zah (zab rfl) (sVar rfl zeY) za2), fun _ _ => rfl⟩) za2) (fun _ _ _ => rfl))
  zac) zac)
  (zaa (zaq (sVar rfl nn_out))
  zac)))))))
noncomputable def sc_law_by_names : Sc := { kinds := [(os "text", .local), (os "names", .local), (os "star", .local), (os "lists", .local), (os "tails", .local), (os "k", .local), (os "_law_climb", .globalImplicit), (os "len", .globalImplicit), (os "range", .globalImplicit), (os "_translate", .globalImplicit), (os "_law_takes", .globalImplicit)], vars := [(os "text", 0), (os "names", 1), (os "star", 2), (os "lists", 3), (os "tails", 4), (os "k", 5)] }
theorem zdx {cx : XCx} (N : GN cx fs02 bs02) (CG : CacheG cx cp02) : SoundSs cx sc_law_by_names (nthBody PySem.Challenge.pw_dn0069_02 28) s_law_by_names := by
  unfold s_law_by_names
  exact (zaa (zad rfl (nLoc rfl) (zap rfl (zd6 N) rfl (.cons (sVar rfl zcN) rfl .nil)) (fun _ _ _ => rfl))
  (zaa (zaj (zae (zar rfl (b_len N) (by decide) rfl (.builtin _) rfl (.cons (sVar rfl nn_tails) rfl .nil) zck) (zar rfl (b_len N) (by decide) rfl (.builtin _) rfl (.cons (sVar rfl nn_names) rfl .nil) zck) op_ne rfl) (zaa (zaq (zab rfl))
  zac) zac)
  (zaa (zbv rfl (nLoc rfl) (za6 rfl (zb8 N) (.cons (zar rfl (b_len N) (by decide) rfl (.builtin _) rfl (.cons (sVar rfl nn_names) rfl .nil) zck) rfl .nil)) (pair_if CG rfl (zd5 N) rfl rfl nn_lists.1 nn_lists.2 (ze1 rfl nn_tails.1 nn_tails.2 rfl nn_k.1 nn_k.2) (ze1 rfl nn_tails.1 nn_tails.2 rfl nn_k.1 nn_k.2) (ze1 rfl nn_tails.1 nn_tails.2 rfl nn_k.1 nn_k.2) (zap rfl (zd4 N) rfl (.cons (zag (sVar rfl nn_tails) (sVar rfl nn_k)) rfl (.cons (sVar rfl zdb) rfl (.cons (zab (by kernel_rfl)) rfl .nil)))) (fun _ => rfl) rfl (.cons (sVar rfl zdb) rfl (.cons (zag (sVar rfl nn_names) (sVar rfl nn_k)) rfl .nil)) (zaa (zaq (zab rfl))
  zac) zac) (fun _ _ => rfl))
  (zaa (zaq (zab rfl))
  zac))))
noncomputable def sc_law : Sc := { kinds := [(os "script", .cell), (os "star", .cell), (os "lists", .cell), (os "k", .local), (os "sums", .local), (os "patterns", .local), (os "left", .local), (os "items", .local), (os "step", .local), (os "item", .local), (os "wholes", .local), (os "names", .cell), (os "path", .local), (os "n", .local), (os "whole", .local), (os "some", .local), (os "range", .globalImplicit), (os "join", .globalImplicit), (os "_law_climb", .globalImplicit), (os "_law_takes", .globalImplicit), (os "_law_spread", .globalImplicit), (os "len", .globalImplicit)], vars := [(os "script", 0), (os "star", 1), (os "lists", 2), (os "k", 3), (os "sums", 4), (os "patterns", 6), (os "left", 7), (os "items", 8), (os "step", 9), (os "item", 10), (os "wholes", 11), (os "names", 12), (os "path", 13), (os "n", 14), (os "whole", 15), (os "some", 16)] }
theorem snd_law {cx : XCx} (N : GN cx fs02 bs02) : SoundSs cx sc_law ((nthBody PySem.Challenge.pw_dn0069_02 29).drop 2) s_law := by
  unfold s_law
  exact (zaa (zbD ⟨za5, zcF, (za6 rfl (zb8 N) (.cons (zab rfl) rfl .nil)), zbT rfl, zcm, (zar rfl (b_abs N) (by decide) rfl (.builtin _) rfl (.cons (zar rfl (b_sum N) (by decide) rfl (.builtin _) rfl (.cons (zco (sVar rfl ziw) (.yes (sVar rfl nn_k)) .no (zab rfl)) rfl .nil) op_sum) rfl .nil) op_abs), fun _ _ => rfl⟩ rfl (nLoc rfl) (swapC rfl rfl rfl))
  (zaa (zbb rfl (nLoc rfl) (zaN .nil) (fun _ _ _ => rfl))
  (zaa (zbv rfl (nLoc rfl) (za6 rfl (zb8 N) (.cons (zab rfl) rfl .nil)) (zaa (zad rfl (nLoc rfl) (zah (zag (sVar rfl ziv) (sVar rfl nn_k)) (zag (zbC (.cons (zab rfl) rfl (.cons (zab rfl) rfl (.cons (zab rfl) rfl .nil)))) (sVar rfl nn_k)) za2) (fun _ _ _ => rfl))
  (zaa (zbb rfl (nLoc rfl) (zaN .nil) (fun _ _ _ => rfl))
  (zaa (zbv rfl (nLoc rfl) (za6 rfl (zb8 N) (.cons (zab rfl) rfl .nil)) (zaa (zaj (zaO (.or (zae (sVar rfl zdc) (zab rfl) op_gt rfl) (.one (zae (sVar rfl nn_items) (zaN .nil) op_eq rfl)))) (zaa (zad rfl (nLoc rfl) (zag (zbC (.cons (zab rfl) rfl (.cons (zab rfl) rfl (.cons (zab rfl) rfl (.cons (zab rfl) rfl (.cons (zab (by kernel_rfl)) rfl (.cons (zab (by kernel_rfl)) rfl (.cons (zab rfl) rfl .nil)))))))) (zah (sVar rfl zdc) (zab rfl) zku)) (fun _ _ _ => rfl))
  (zaa (zaj (zaO (.or (zae (sVar rfl zix) (zab rfl) op_ne rfl) (.or (zae (zab rfl) (sVar rfl nn_items) zgU rfl) (.one (zaO (.and (zae (m_count rfl rfl (by decide) (sVar rfl nn_items) (.cons (zab rfl) rfl .nil)) (zab rfl) op_lt rfl) (.one (zae (zag (sVar rfl nn_items) (zb0 (zab rfl) zdo (fun h => nomatch h))) (zab rfl) op_ne rfl)))))))) (zaa (zbi rfl nn_items.1 nn_items.2 rfl (sVar rfl zix) rfl)
  zac) zac)
  (zaa (zad rfl (nLoc rfl) (zah (sVar rfl zdc) (zab rfl) zkv) (fun _ _ _ => rfl))
  zac))) zac)
  zac) (fun _ _ => rfl))
  (zaa (zbI ⟨os "items", rfl⟩ (zbi rfl nn_patterns.1 nn_patterns.2 rfl (sVar rfl nn_items) rfl))
  zac)))) (fun _ _ => rfl))
  (zaa (zbI ⟨os "patterns", rfl⟩ (zbI ⟨os "items", rfl⟩ (zbD ⟨za5, zcF, (zbm (sVar rfl nn_patterns)), zbT rfl, zcm, (zap rfl (zd4 N) rfl (.cons (m_join rfl rfl (by decide) (zab rfl) (.cons (sVar rfl nn_items) rfl .nil)) rfl (.cons (sVar rfl zdb) rfl (.cons (zab rfl) rfl .nil)))), fun _ _ => rfl⟩ rfl (nLoc rfl) (swapC rfl rfl rfl))))
  (zaa (zbv rfl (nLoc rfl) (za6 rfl (zb8 N) (.cons (zab rfl) rfl .nil)) (zaa (zad rfl (nLoc rfl) (zah (zag (sVar rfl ziv) (zah (zab rfl) (sVar rfl nn_k) za2)) (zag (zbC (.cons (zab rfl) rfl (.cons (zab rfl) rfl (.cons (zab rfl) rfl (.cons (zab rfl) rfl (.cons (zab rfl) rfl .nil)))))) (sVar rfl nn_k)) za2) (fun _ _ _ => rfl))
  (zaa (zbb rfl (nfree rfl) (zaN .nil) (fun _ _ _ => rfl))
  (zaa (zbv rfl (nLoc rfl) (za6 rfl (zb8 N) (.cons (zab rfl) rfl .nil)) (zaa (zaj (zaO (.or (zae (sVar rfl zdc) (zab rfl) op_gt rfl) (.one (zae (sVar rfl nn_names) (zaN .nil) op_eq rfl)))) (zaa (zbi rfl nn_names.1 nn_names.2 rfl (zag (zbC (.cons (zab rfl) rfl (.cons (zab rfl) rfl (.cons (zab rfl) rfl (.cons (zab rfl) rfl (.cons (zab rfl) rfl .nil)))))) (zah (sVar rfl zdc) (zab rfl) zku)) rfl)
  (zaa (zad rfl (nLoc rfl) (zah (sVar rfl zdc) (zab rfl) zkv) (fun _ _ _ => rfl))
  zac)) zac)
  zac) (fun _ _ => rfl))
  (zaa (zbI ⟨os "names", rfl⟩ (zad rfl (nLoc rfl) (zap rfl (f_join N) rfl (.star (sVar rfl nn_names))) (fun _ _ _ => rfl)))
  (zaa (zaj (zae (zap rfl (zd6 N) rfl (.cons (sVar rfl nn_path) rfl .nil)) (zco (sVar rfl nn_names) .no .no (zb0 (zab rfl) zdo (fun h => nomatch h))) op_ne rfl) (zaa (zaq (zab rfl))
  zac) zac)
  (zaa (zbv rfl (nLoc rfl) (za6 rfl (zb8 N) (.cons (zab rfl) rfl .nil)) (zaa (zad rfl (nLoc rfl) (zap rfl (zd5 N) rfl (.cons (zag (sVar rfl zit) (sVar rfl nn_n)) rfl (.cons (sVar rfl zdb) rfl (.cons (sVar rfl nn_path) rfl .nil)))) (fun _ _ _ => rfl))
  (zaa (zbI ⟨os "names", rfl⟩ (zbI ⟨os "patterns", rfl⟩ (zbD ⟨za5, zcF, (zbm (zap rfl (zbR N) rfl (.cons (zag (sVar rfl nn_patterns) (sVar rfl nn_n)) rfl (.cons (zah (zar rfl (b_len N) (by decide) rfl (.builtin _) rfl (.cons (sVar rfl nn_names) rfl .nil) zck) (zab rfl) zex) rfl .nil)))), zbT rfl, (zfp (zap rfl (zej N) rfl (.cons (sVar rfl zcN) rfl (.cons (zco (sVar rfl nn_names) .no .no (zb0 (zab rfl) zdo (fun h => nomatch h))) rfl (.cons (sVar rfl zdb) rfl (.cons (sVar rfl nn_lists) rfl .nil)))))), (zab rfl), fun _ _ => rfl⟩ rfl (nLoc rfl) (swapC rfl rfl rfl))))
  (zaa (zaj (zae (sVar rfl zjR) (zae (sVar rfl nn_some) (zaN .nil) op_ne rfl) op_ne rfl) (zaa (zaq (zab rfl))
  zac) zac)
  zac))) (fun _ _ => rfl))
  zac)))))) (fun _ _ => rfl))
  (zaa (zaq (zab rfl))
  zac))))))
end Mine
end W02x
section
open PySem
namespace Mine
set_option genInjectivity false in
structure At (pat : List Nat) (p : Nat) (u : List Nat) : Prop where
  drop : pat.drop p = u
  le : p ≤ pat.length
  small : pat.length ≤ 100000
noncomputable def P (p k : Nat) : D := .int ((p + k : Nat) : Int)
noncomputable def N (pat : List Nat) : D := .int (pat.length : Int)
section
variable {pat u : List Nat} {p : Nat}
theorem At.len (H : At pat p u) : pat.length = p + u.length := by
  have := congrArg List.length H.drop
  rw [List.length_drop] at this
  have := H.le
  omega
theorem At.get (H : At pat p u) (k : Nat) : pat[p + k]? = u[k]? := by rw [← H.drop, List.getElem?_drop]
theorem zjx {z : Int} (h1 : 0 ≤ z) (h2 : z ≤ 200000) : small z = true := by
  unfold small
  simp only [Bool.and_eq_true, decide_eq_true_eq]
  omega
theorem At.sm (H : At pat p u) {k : Nat} (hk : k ≤ 100000) : Mine.small ((p + k : Nat) : Int) = true :=
  zjx (Int.natCast_nonneg _) (by have h := Nat.add_le_add (Nat.le_trans H.le H.small) hk; clear hk; omega)
theorem P_add (k j : Nat) : opF .add [P p k, .int (j : Int)] = some (.val (P p (k + j))) := by
  show some (R.val (.int (((p + k : Nat) : Int) + (j : Int)))) = some (R.val (.int ((p + (k + j) : Nat) : Int)))
  rw [show (((p + k : Nat) : Int) + (j : Int)) = ((p + (k + j) : Nat) : Int) by omega]
theorem idx (H : At pat p u) {k : Nat} (hk : k ≤ 100000) : opF .index [.str pat, P p k] = (u[k]?).map fun c => .val (.str [c]) := by
  have hl := H.len
  have hs := H.small
  show (if small ((p + k : Nat) : Int) then (match place ((p + k : Nat) : Int) pat.length with | some k => (pat[k]?).map fun c => R.val (.str [c]) | none => none) else none) = _
  rw [H.sm hk]
  simp only [if_true]
  unfold place
  rw [if_pos (Int.natCast_nonneg _)]
  by_cases h : p + k < pat.length
  · rw [if_pos (by exact_mod_cast h)]
    simp only [Int.toNat_natCast]
    rw [H.get]
  · rw [if_neg (by exact_mod_cast h)]
    rw [← H.get, List.getElem?_eq_none (Nat.not_lt.mp h)]
    rfl
theorem zeS {k : Nat} : (u[k]?).isSome = decide (k < u.length) := by
  by_cases h : k < u.length
  · rw [List.getElem?_eq_getElem h]; simp [h]
  · rw [List.getElem?_eq_none (Nat.not_lt.mp h)]; simp [h]
theorem lt_N (H : At pat p u) {k : Nat} : opF .lt [P p k, N pat] = some (.val (.bool (u[k]?).isSome)) := by
  have hl := H.len
  show some (R.val (.bool (decide (((p + k : Nat) : Int) < (pat.length : Int))))) = _
  rw [zeS]
  congr 4
  simp only [eq_iff_iff]
  omega
theorem ge_N (H : At pat p u) {k : Nat} : opF .ge [P p k, N pat] = some (.val (.bool (!(u[k]?).isSome))) := by
  have hl := H.len
  show some (R.val (.bool (decide ((pat.length : Int) ≤ ((p + k : Nat) : Int))))) = _
  rw [zeS, ← decide_not]
  congr 4
  simp only [eq_iff_iff]
  omega
theorem lt_0 {k : Nat} : opF .lt [P p k, .int 0] = some (.val (.bool false)) := by
  show some (R.val (.bool (decide (((p + k : Nat) : Int) < 0)))) = _
  rw [decide_eq_false (by omega)]
theorem sl (H : At pat p u) {a b : Nat} (ha : a ≤ 100000) (hb : b ≤ 100000) : opF .slice [.str pat, P p a, P p b] = some (.val (.str (cut u a b))) := by
  have hl := H.len
  have hs := H.small
  have cl : ∀ k d : Nat, k ≤ 100000 → bound (P p k) d pat.length = some (min (p + k) pat.length) := fun k d hk => by
    show (if small ((p + k : Nat) : Int) then some (clip ((p + k : Nat) : Int) pat.length) else none) = _
    rw [H.sm hk]
    simp only [if_true]
    unfold clip
    rw [if_neg (Int.not_lt.mpr (Int.natCast_nonneg _))]
    by_cases h : p + k < pat.length
    · rw [if_pos (by exact_mod_cast h), Int.toNat_natCast, Nat.min_eq_left (Nat.le_of_lt h)]
    · rw [if_neg (by exact_mod_cast h), Nat.min_eq_right (Nat.not_lt.mp h)]
  show (match bound (P p a) 0 pat.length, bound (P p b) pat.length pat.length with
    | some lo, some hi => some (R.val (.str (cut pat lo hi)))
    | _, _ => none) = _
  rw [cl a 0 ha, cl b _ hb]
  show some (R.val (.str (cut pat (min (p + a) pat.length) (min (p + b) pat.length)))) = _
  congr 3
  unfold cut
  rw [← H.drop, List.drop_drop]
  have e1 : pat.drop (min (p + a) pat.length) = pat.drop (p + a) := by
    by_cases h : p + a ≤ pat.length
    · rw [Nat.min_eq_left h]
    · rw [Nat.min_eq_right (Nat.le_of_not_le h), List.drop_eq_nil_of_le (Nat.le_refl _), List.drop_eq_nil_of_le (Nat.le_of_not_le h)]
  rw [e1]
  by_cases h : p + b ≤ pat.length
  · rw [Nat.min_eq_left h]
    by_cases h' : p + a ≤ pat.length
    · rw [Nat.min_eq_left h', Nat.add_sub_add_left]
    · rw [List.drop_eq_nil_of_le (i := p + a) (Nat.le_of_not_le h')]; simp
  · have h2 := Nat.le_of_not_le h
    rw [Nat.min_eq_right h2]
    rw [List.take_of_length_le (by rw [List.length_drop]; clear hs ha hb cl e1 hl h; omega), List.take_of_length_le (by rw [List.length_drop]; clear hs ha hb cl e1 hl h; omega)]
end
end Mine
end
section
open PySem PySem.StrLaws PySem.Builtin PySem.Builtin.Str
namespace Mine
theorem sub1 (a : List Nat) (c i hi : Nat) : (i + (⟨#[c]⟩ : PySem.Str).length ≤ hi ∧ subAt ⟨a.toArray⟩ ⟨#[c]⟩ i = true) ↔ (i < hi ∧ a[i]? = some c) := by
  rw [subAt_eq]
  show (i + 1 ≤ hi ∧ ((a.drop i).take 1 == [c]) = true) ↔ _
  rw [take1_drop]
  exact ⟨fun h => ⟨by omega, h.2⟩, fun h => ⟨by omega, h.2⟩⟩
theorem zi5 (b : List Nat) (c : Nat) : Txt.contains ⟨b.toArray⟩ ⟨[c].toArray⟩ = decide (c ∈ b) := found_one ⟨b.toArray⟩ c
theorem zf9 (a : List Nat) (c : Nat) : Txt.startswith ⟨a.toArray⟩ ⟨[c].toArray⟩ = decide (a.head? = some c) := by
  unfold Txt.startswith
  have h := sub1 a c 0 a.length
  rw [Bool.eq_iff_iff, Bool.and_eq_true, decide_eq_true_eq, decide_eq_true_eq]
  rw [List.head?_eq_getElem?]
  refine h.trans ⟨fun x => x.2, fun x => ⟨?_, x⟩⟩
  rcases Nat.lt_or_ge 0 a.length with q | q
  · exact q
  · rw [List.getElem?_eq_none q] at x; cases x
theorem zi2 (a : List Nat) (c : Nat) : Txt.endswith ⟨a.toArray⟩ ⟨[c].toArray⟩ = decide (a.getLast? = some c) := by
  unfold Txt.endswith
  rw [Bool.eq_iff_iff, Bool.and_eq_true, decide_eq_true_eq, decide_eq_true_eq]
  have h := sub1 a c (a.length - 1) a.length
  show (0 + 1 ≤ a.length ∧ subAt ⟨a.toArray⟩ ⟨#[c]⟩ (a.length - 1) = true) ↔ _
  rw [List.getLast?_eq_getElem?]
  rcases Nat.lt_or_ge 0 a.length with q | q
  · constructor
    · rintro ⟨x, y⟩
      exact (h.mp ⟨by show a.length - 1 + 1 ≤ a.length; omega, y⟩).2
    · intro x
      exact ⟨by omega, (h.mpr ⟨by omega, x⟩).2⟩
  · constructor
    · rintro ⟨x, y⟩; omega
    · intro x
      rw [List.getElem?_eq_none (by omega)] at x; cases x
theorem zjy {a : List Nat} {c : Nat} (h : c ∉ a) : Txt.rfind ⟨a.toArray⟩ ⟨[c].toArray⟩ = -1 := by
  unfold Txt.rfind
  rcases last_spec ⟨a.toArray⟩ ⟨[c].toArray⟩ with ⟨e, _⟩ | ⟨i, e, hA, _⟩
  · rw [e]
  · exact absurd (List.mem_of_getElem? ((sub1 a c i a.length).mp hA).2) h
theorem zjz {x y : List Nat} {c : Nat} (h : c ∉ y) : Txt.rfind ⟨(x ++ c :: y).toArray⟩ ⟨[c].toArray⟩ = (x.length : Int) := by
  unfold Txt.rfind
  have at' : ∀ i, StrLaws.At ⟨(x ++ c :: y).toArray⟩ ⟨[c].toArray⟩ (PySem.Str.mk (x ++ c :: y).toArray).length i ↔ (i < (x ++ c :: y).length ∧ (x ++ c :: y)[i]? = some c) := fun i => sub1 _ c i _
  rcases last_spec ⟨(x ++ c :: y).toArray⟩ ⟨[c].toArray⟩ with ⟨e, hn⟩ | ⟨i, e, hA, hn⟩
  · exact absurd ((at' x.length).mpr ⟨by simp, by simp⟩) (hn _)
  · rw [e]
    have h1 := ((at' i).mp hA).2
    have : i = x.length := by
      rcases Nat.lt_trichotomy i x.length with q | q | q
      · exact absurd ((at' x.length).mpr ⟨by simp, by simp⟩) (hn _ q)
      · exact q
      · exfalso
        rw [List.getElem?_append_right (Nat.le_of_lt q)] at h1
        obtain ⟨k, hk⟩ : ∃ k, i - x.length = k + 1 := ⟨i - x.length - 1, (Nat.sub_add_cancel (Nat.sub_pos_of_lt q)).symm⟩
        rw [hk, List.getElem?_cons_succ] at h1
        exact h (List.mem_of_getElem? h1)
    rw [this]
theorem rstrip1 (a : List Nat) (c : Nat) : (Txt.rstripChars ⟨a.toArray⟩ ⟨[c].toArray⟩).cps.toList = (a.reverse.dropWhile fun x => x == c).reverse := by
  unfold Txt.rstripChars Txt.stripBy
  have hg : ∀ x : Nat, ([c].toArray).contains x = (x == c) := fun x => by
    by_cases h : x = c
    · subst h; simp
    · rw [beq_eq_false_iff_ne.mpr h]; simpa using h
  have hlo : stripLo ([c].toArray).contains false ⟨a.toArray⟩ = 0 := rfl
  have key : (strSub ⟨a.toArray⟩ 0 (stripHi ([c].toArray).contains true ⟨a.toArray⟩ 0)).cps.toList = (a.reverse.dropWhile fun x => x == c).reverse := by
    rw [strSub_toList]
    unfold stripHi
    simp only [if_true, List.drop_zero, Nat.sub_zero]
    show a.take (a.length - (a.reverse.takeWhile ([c].toArray).contains).length) = _
    have e : ([c].toArray).contains = fun x => x == c := funext hg
    rw [e]
    have h1 := List.takeWhile_append_dropWhile (p := fun x => x == c) (l := a.reverse)
    have h2 : a = (a.reverse.dropWhile fun x => x == c).reverse ++ (a.reverse.takeWhile fun x => x == c).reverse := by
      rw [← List.reverse_append, h1, List.reverse_reverse]
    have h3 : a.length - (a.reverse.takeWhile fun x => x == c).length = (a.reverse.dropWhile fun x => x == c).reverse.length := by
      have := congrArg List.length h2
      rw [List.length_append, List.length_reverse, List.length_reverse] at this
      rw [List.length_reverse]
      omega
    rw [h3]
    have h4 : ∀ u v : List Nat, a = u ++ v → a.take u.length = u := fun u v e => by rw [e, List.take_left' rfl]
    exact h4 _ _ h2
  show (if stripSame ([c].toArray).contains false true ⟨a.toArray⟩ = true then (PySem.Str.mk a.toArray) else stripped ([c].toArray).contains false true ⟨a.toArray⟩).cps.toList = _
  split
  · rename_i hs
    rw [← key]
    unfold stripSame at hs
    rw [hlo] at hs
    simp only [Bool.and_eq_true, beq_iff_eq] at hs
    rw [hs.2, strSub_toList]
    show a = (a.drop 0).take (a.length - 0)
    simp
  · exact key
theorem zfD {a : List Nat} {c lo hi lim : Nat} (hl : 1 ≤ lim) (h : ∀ i, lo ≤ i → i < hi → a[i]? ≠ some c) : occurrences ⟨a.toArray⟩ ⟨[c].toArray⟩ lo hi lim = [] := by
  rw [occ_eq]
  rcases occ_first ⟨a.toArray⟩ ⟨[c].toArray⟩ hi lim hl (List.range' lo (hi + 1 - lo)) lo (fun i hi => by have := List.mem_range'_1.mp hi; omega) with ⟨h0, _⟩ | ⟨pre, b, post, e, h0, hb, hn⟩
  · rw [h0]
  · exfalso
    have h1 := (sub1 a c b hi).mp hb
    have hs : b ∈ List.range' lo (hi + 1 - lo) := by rw [e]; simp
    have := List.mem_range'_1.mp hs
    exact h b this.1 h1.1 h1.2
theorem zfC {a : List Nat} {c lo hi lim i : Nat} (hl : 1 ≤ lim) (h1 : lo ≤ i) (h2 : i < hi) (h3 : a[i]? = some c) (h : ∀ k, lo ≤ k → k < i → a[k]? ≠ some c) : ∃ r, occurrences ⟨a.toArray⟩ ⟨[c].toArray⟩ lo hi lim = i :: r := by
  rw [occ_eq]
  rcases occ_first ⟨a.toArray⟩ ⟨[c].toArray⟩ hi lim hl (List.range' lo (hi + 1 - lo)) lo (fun i hi => by have := List.mem_range'_1.mp hi; omega) with ⟨h0, hn⟩ | ⟨pre, b, post, e, h0, hb, hn⟩
  · exact absurd ((sub1 a c i hi).mpr ⟨h2, h3⟩) (hn i (List.mem_range'_1.mpr ⟨h1, by rw [Nat.add_sub_cancel' (Nat.le_trans h1 (Nat.le_succ_of_le (Nat.le_of_lt h2)))]; exact Nat.lt_succ_of_lt h2⟩))
  · have hs := range'_split_from e
    have hb' := (sub1 a c b hi).mp hb
    have : b = i := by
      rcases Nat.lt_trichotomy b i with q | q | q
      · exact absurd hb'.2 (h b hs.1 q)
      · exact q
      · exact absurd ((sub1 a c i hi).mpr ⟨h2, h3⟩) (hn i (hs.2 i h1 q))
    subst this
    generalize (forIn (List.range' lo (hi + 1 - lo)) ((#[] : Array Nat), lo) (occBody ⟨a.toArray⟩ ⟨[c].toArray⟩ hi lim)).run.fst = arr at h0
    have h1 : arr.toList[0]? = some b := by simpa using h0
    cases hL : arr.toList with
    | nil => rw [hL] at h1; cases h1
    | cons x t => rw [hL] at h1; simp at h1; rw [h1]; exact ⟨t, rfl⟩
theorem noOcc1 (a : List Nat) (c : Nat) : (occurrences ⟨a.toArray⟩ ⟨[c].toArray⟩ 0 a.length (a.length + 1)).isEmpty = !decide (c ∈ a) := by
  by_cases h : c ∈ a
  · obtain ⟨j, hj⟩ := List.getElem?_of_mem h
    rw [decide_eq_true h]
    have hex : ∃ i : Nat, a[i]? = some c ∧ ∀ k : Nat, k < i → a[k]? ≠ some c := by
      clear h
      induction j using Nat.strongRecOn with
      | _ j ih =>
        by_cases q : ∃ k, k < j ∧ a[k]? = some c
        · obtain ⟨k, q1, q2⟩ := q
          exact ih k q1 q2
        · exact ⟨j, hj, fun k hk e => q ⟨k, hk, e⟩⟩
    obtain ⟨i, h1, h2⟩ := hex
    obtain ⟨r, e⟩ := zfC (a := a) (c := c) (lo := 0) (hi := a.length) (lim := a.length + 1) (by omega) (Nat.zero_le i) (List.getElem?_eq_some_iff.mp h1).1 h1 fun k _ => h2 k
    rw [e]; rfl
  · rw [decide_eq_false h, zfD (by omega) (fun i _ _ e => h (List.mem_of_getElem? e) : ∀ i, 0 ≤ i → i < a.length → a[i]? ≠ some c)]
    rfl
noncomputable def firstAt (c : Nat) : List Nat → Option Nat
  | [] => none
  | x :: r => if x = c then some 0 else (firstAt c r).map (· + 1)
theorem zdt {c : Nat} : ∀ {l : List Nat}, firstAt c l = none → ∀ k : Nat, l[k]? ≠ some c
  | [], _, k, e => by simp at e
  | x :: r, h, k, e => by
    unfold firstAt at h
    split at h
    · cases h
    · rename_i hx
      have h' : firstAt c r = none := by cases q : firstAt c r <;> rw [q] at h <;> simp at h ⊢
      cases k with
      | zero => simp at e; exact hx e
      | succ k => exact zdt h' k (by simpa using e)
theorem zds {c : Nat} : ∀ {l : List Nat} {m : Nat}, firstAt c l = some m → l[m]? = some c ∧ ∀ k : Nat, k < m → l[k]? ≠ some c
  | [], _, h => by cases h
  | x :: r, m, h => by
    unfold firstAt at h
    split at h
    · rename_i hx
      cases h
      exact ⟨by simp [hx], fun k hk => by omega⟩
    · rename_i hx
      obtain ⟨m', h', rfl⟩ := Option.map_eq_some_iff.mp h
      obtain ⟨a, b⟩ := zds h'
      refine ⟨by simpa using a, fun k hk e => ?_⟩
      cases k with
      | zero => simp at e; exact hx e
      | succ k => exact b k (by omega) (by simpa using e)
section
variable {pat u : List Nat} {p : Nat}
theorem zgv {α : Type} (l : List α) (a b k : Nat) : (cut l a b)[k]? = if k < b - a then l[a + k]? else none := by
  unfold cut
  rw [List.getElem?_take]
  split <;> simp [List.getElem?_drop]
theorem find1 (H : At pat p u) {c a b : Nat} (ha : a ≤ 100000) (hb : b ≤ 100000) (hab : b ≤ u.length) : opF .find4 [.str pat, .str [c], P p a, P p b] = some (.val (match firstAt c (cut u a b) with | some m => P p (a + m) | none => .int (-1))) := by
  have hl := H.len
  have hs := H.small
  show (if small ((p + a : Nat) : Int) = true ∧ small ((p + b : Nat) : Int) = true then some (R.val (.int (match occurrences ⟨pat.toArray⟩ ⟨[c].toArray⟩ (fromIndex pat.length ((p + a : Nat) : Int)) (min (fromIndex pat.length ((p + b : Nat) : Int)) pat.length) 1 with | k :: _ => (k : Int) | [] => -1))) else none) = _
  rw [if_pos ⟨H.sm ha, H.sm hb⟩]
  have f : ∀ k : Nat, fromIndex pat.length (k : Int) = k := fun k => by
    unfold fromIndex
    rw [if_neg (Int.not_lt.mpr (Int.natCast_nonneg k))]
    rfl
  have hpb : p + b ≤ pat.length := hl ▸ Nat.add_le_add_left hab p
  rw [f, f, Nat.min_eq_left hpb]
  cases h : firstAt c (cut u a b) with
  | none =>
    have hn := zdt h
    rw [zfD (Nat.le_refl 1)]
    intro i h1 h2 h3
    have := hn (i - p - a)
    clear hl hs ha hb hab hpb hn
    rw [zgv, if_pos (by omega)] at this
    have e : a + (i - p - a) = i - p := by clear this; omega
    rw [e, ← H.get, show p + (i - p) = i by clear this h2 e; omega] at this
    exact this h3
  | some m =>
    obtain ⟨h1, h2⟩ := zds h
    rw [zgv] at h1
    split at h1
    · rename_i hm
      obtain ⟨r, e⟩ := zfC (a := pat) (c := c) (lo := p + a) (hi := p + b) (lim := 1) (i := p + (a + m)) (Nat.le_refl 1) (Nat.add_le_add_left (Nat.le_add_right a m) p) (by clear ha hb hab hl hs hpb h1 h2; omega) (by rw [H.get]; exact h1) (fun k hk1 hk2 e => by
        have := h2 (k - p - a) (by clear ha hb hab hl hs hpb h1 h2 hm; omega)
        rw [zgv, if_pos (by clear ha hb hab hl hs hpb h1 h2 this; omega)] at this
        have e' : a + (k - p - a) = k - p := by clear ha hb hab hl hs hpb h1 h2 this hm hk2; omega
        rw [e', ← H.get, show p + (k - p) = k by clear ha hb hab hl hs hpb h1 h2 this hm hk2 e'; omega] at this
        exact this e)
      rw [e]
      rfl
    · cases h1
end
noncomputable abbrev Res := Option (List Slot × Out)
section
variable {cf : CfT} {ρ ρ₁ ρ' : List Slot} {o : Out} {res : Res} {a b : S} {x c : X} {d : D} {i j k : Nat}
theorem zan : ex cf .skip ρ = some (ρ, .next) := zg9 _
noncomputable def after (cf : CfT) (b : S) (ρ : List Slot) : Out → Res
  | .next => ex cf b ρ
  | o => some (ρ, o)
theorem R_seq (h : ex cf a ρ = some (ρ₁, o)) (h2 : after cf b ρ₁ o = res) : ex cf (.seq a b) ρ = res := by
  rw [ziW, h]
  cases o <;> exact h2
theorem zaf (h : ex cf b ρ = res) : after cf b ρ .next = res := h
theorem za9 : after cf b ρ .brk = some (ρ, .brk) := rfl
theorem zaU : after cf b ρ .cont = some (ρ, .cont) := rfl
theorem zai : after cf b ρ (.ret d) = some (ρ, .ret d) := rfl
theorem zak (h : ev1 cf x ρ = some d) (h2 : ρ.set i (.val d) = ρ') : ex cf (.assign i x) ρ = some (ρ', .next) := by
  rw [zdg]; rw [h, ← h2]; rfl
theorem zaF (h0 : noApp i ρ = true) {l : List D} (h : ev cf x ρ = some [.own l]) (h2 : ρ.set i (.own l) = ρ') (hd : dSlot i = false := by rfl) : ex cf (.assignO i x) ρ = some (ρ', .next) := by
  rw [zcP]; rw [if_pos h0, h, ← h2]; exact if_neg (by rw [hd]; exact Bool.false_ne_true)
theorem zaR {d1 d2 : D} (h : ev1 cf x ρ = some (.tup [d1, d2])) (h2 : (ρ.set i (.val d1)).set j (.val d2) = ρ') : ex cf (.assign2 i j x) ρ = some (ρ', .next) := by
  rw [zcQ]; rw [h, ← h2]
theorem zbG {l : List D} (h : ownAt ρ j = some l) (h2 : ρ.set i (.app j) = ρ') : ex cf (.alias i j) ρ = some (ρ', .next) := by
  rw [zfT]; rw [h, ← h2]
theorem za0 {l : List D} (h : ev1 cf x ρ = some d) (h1 : ownAt ρ i = some l) (hl : l.length < lim) (h2 : ρ.set i (.own (l ++ [d])) = ρ') : ex cf (.append i x) ρ = some (ρ', .next) := by
  rw [zeE]; rw [h, h1]; simp only [if_pos hl, h2]
theorem zaG {l : List D} (h0 : ρ[i]? = some (.app j)) (h : ev1 cf x ρ = some d) (h1 : ownAt ρ j = some l) (hl : l.length < lim) (h2 : ρ.set j (.own (l ++ [d])) = ρ') : ex cf (.appendVia i j x) ρ = some (ρ', .next) := by
  rw [zc4]; rw [h0, h, h1]; simp only [if_true, if_pos hl, h2]
theorem R_aug {s t : List Nat} (h0 : ρ[i]? = some (.val (.str s))) (h : ev1 cf x ρ = some (.str t)) (hl : s.length + t.length ≤ lim) (h2 : ρ.set i (.val (.str (s ++ t))) = ρ') : ex cf (.aug i x) ρ = some (ρ', .next) := by
  rw [ziV]; rw [h0, h]; simp only [if_pos hl, h2]
theorem R_fz {l : List D} (h : ownAt ρ i = some l) (h2 : ρ.set i (.val (.list l)) = ρ') : ex cf (.fz i) ρ = some (ρ', .next) := by rw [ex_fz, h, ← h2]
theorem zjm (h : ownAt ρ i = none) : ex cf (.fz i) ρ = some (ρ, .next) := by rw [ex_fz, h]
noncomputable def branch (cf : CfT) (a b : S) (ρ : List Slot) : Bool → Res
  | true => ex cf a ρ
  | false => ex cf b ρ
theorem R_ite {t : Bool} (h : evT cf c ρ = some t) (h2 : branch cf a b ρ t = res) : ex cf (.ite c a b) ρ = res := by
  rw [zgs]; rw [h]; cases t <;> exact h2
theorem R_tt (h : ex cf a ρ = res) : branch cf a b ρ true = res := h
theorem R_ff (h : ex cf b ρ = res) : branch cf a b ρ false = res := h
theorem zkn (h : evT cf c ρ = some true) : ex cf (.assert c) ρ = some (ρ, .next) := by rw [zeD]; rw [h]
theorem R_ret (h : ev1 cf x ρ = some d) : ex cf (.ret x) ρ = some (ρ, .ret d) := by rw [ziU]; rw [h]; rfl
theorem R_try (h : ex cf b ρ = res) : ex cf (.try_ b) ρ = res := by rw [zg8]; exact h
noncomputable def wOut (cf : CfT) (c : X) (b : S) (n : Nat) (ρ : List Slot) : Out → Res
  | .next => whileGo (evT cf c) (ex cf b) n ρ
  | .cont => whileGo (evT cf c) (ex cf b) n ρ
  | .brk => some (ρ, .next)
  | .ret d => some (ρ, .ret d)
noncomputable def wTurn (cf : CfT) (c : X) (b : S) (n : Nat) (ρ : List Slot) : Bool → Res
  | false => some (ρ, .next)
  | true => match ex cf b ρ with
    | some (ρ', o) => wOut cf c b n ρ' o
    | none => none
theorem zaL {n : Nat} {t : Bool} (h : evT cf c ρ = some t) (h2 : wTurn cf c b n ρ t = res) : whileGo (evT cf c) (ex cf b) (n + 1) ρ = res := by
  unfold whileGo
  rw [h]
  cases t with
  | false => exact h2
  | true =>
    unfold wTurn at h2
    rw [← h2]
    simp only
    cases ex cf b ρ with
    | none => rfl
    | some y =>
      obtain ⟨ρ', o⟩ := y
      cases o <;> rfl
theorem zbz (h : whileGo (evT cf c) (ex cf b) (99999 + 1) ρ = res) : ex cf (.while c b) ρ = res := by rw [zfS]; exact h
theorem zbB {n : Nat} : wTurn cf c b n ρ false = some (ρ, .next) := rfl
theorem R_wGo {n : Nat} (h : ex cf b ρ = some (ρ₁, o)) (h2 : wOut cf c b n ρ₁ o = res) : wTurn cf c b n ρ true = res := by
  unfold wTurn; rw [h]; exact h2
theorem zbA {n : Nat} (h : whileGo (evT cf c) (ex cf b) n ρ = res) : wOut cf c b n ρ .next = res := h
theorem zb5 {n : Nat} : wOut cf c b n ρ .brk = some (ρ, .next) := rfl
theorem zb4 {n : Nat} : wOut cf c b n ρ (.ret d) = some (ρ, .ret d) := rfl
noncomputable def fOut (cf : CfT) (st : D → List Slot → Option (List Slot)) (b : S) (r : List D) (ρ : List Slot) : Out → Res
  | .next => forGo st (ex cf b) r ρ
  | .cont => forGo st (ex cf b) r ρ
  | .brk => some (ρ, .next)
  | .ret d => some (ρ, .ret d)
theorem zbr {st : D → List Slot → Option (List Slot)} : forGo st (ex cf b) [] ρ = some (ρ, .next) := rfl
theorem zaM {st : D → List Slot → Option (List Slot)} {r : List D} {ρ₂ : List Slot} (h1 : st d ρ = some ρ₁) (h : ex cf b ρ₁ = some (ρ₂, o)) (h2 : fOut cf st b r ρ₂ o = res) : forGo st (ex cf b) (d :: r) ρ = res := by
  unfold forGo
  rw [h1]
  simp only [h]
  cases o <;> exact h2
theorem zbp {st : D → List Slot → Option (List Slot)} {r : List D} (h : forGo st (ex cf b) r ρ = res) : fOut cf st b r ρ .next = res := h
theorem zbF {st : D → List Slot → Option (List Slot)} {r : List D} (h : forGo st (ex cf b) r ρ = res) : fOut cf st b r ρ .cont = res := h
theorem zb6 {st : D → List Slot → Option (List Slot)} {r : List D} : fOut cf st b r ρ .brk = some (ρ, .next) := rfl
theorem zbZ {st : D → List Slot → Option (List Slot)} {r : List D} : fOut cf st b r ρ (.ret d) = some (ρ, .ret d) := rfl
theorem R_for {l : List D} (h : evI cf x ρ = some l) (h2 : forGo (put1 i) (ex cf b) l ρ = res) : ex cf (.forE i x b) ρ = res := by rw [zha]; rw [h]; exact h2
theorem zii : put1 i d ρ = some (ρ.set i (.val d)) := rfl
end
noncomputable def one (o : Option (List R)) : Option D := match o with
  | some [r] => r.fz
  | _ => none
noncomputable def theItems (o : Option (List R)) : Option (List D) := match o with
  | some [.val (.list l)] => some l
  | _ => none
section
variable {cf : CfT} {ρ : List Slot} {x : X} {r : R}
theorem zbK : ev1 cf x ρ = one (ev cf x ρ) := by
  unfold ev1
  generalize ev cf x ρ = o
  match o with
  | none => rfl
  | some [] => rfl
  | some [_] => rfl
  | some (_ :: _ :: _) => rfl
theorem zbS : evT cf x ρ = truthR (ev cf x ρ) := by
  unfold evT
  generalize ev cf x ρ = o
  match o with
  | none => rfl
  | some _ => rfl
theorem zbY : evI cf x ρ = theItems (ev cf x ρ) := by
  unfold evI
  generalize ev cf x ρ = o
  match o with
  | none => rfl
  | some [] => rfl
  | some [.val (.list _)] => rfl
  | some [.val .none] => rfl
  | some [.val (.bool _)] => rfl
  | some [.val (.int _)] => rfl
  | some [.val (.str _)] => rfl
  | some [.val (.tup _)] => rfl
  | some [.val (.tok _)] => rfl
  | some [.val (.ty _)] => rfl
  | some [.own _] => rfl
  | some [.bor _] => rfl
  | some (_ :: _ :: _) => rfl
theorem za4 : one (some [r]) = r.fz := rfl
theorem zat {l : List D} : theItems (some [.val (.list l)]) = some l := rfl
theorem zaw : truthR (some [r]) = r.ds.truth := rfl
end
theorem dS3 {α : Type} {x y : α} : (if dSlot 3 = true then x else y) = y := rfl
theorem dS10 {α : Type} {x y : α} : (if dSlot 10 = true then x else y) = y := rfl
noncomputable def appOK (i : Nat) (s : Slot) : Bool := match s with | .app j => j != i | _ => true
theorem zbj (i : Nat) (ρ : List Slot) : noApp i ρ = ρ.all (appOK i) := rfl
theorem zay {i : Nat} {d : D} : appOK i (.val d) = true := rfl
theorem zaz {i : Nat} {d : List D} : appOK i (.own d) = true := rfl
theorem zaB {i : Nat} : appOK i .unset = true := rfl
theorem za8 {i j : Nat} : appOK i (.app j) = (j != i) := rfl
theorem eq_str (a b : List Nat) : opF .eq [.str a, .str b] = some (.val (.bool (decide (a = b)))) := rfl
theorem ne_str (a b : List Nat) : opF .ne [.str a, .str b] = some (.val (.bool (!decide (a = b)))) := rfl
theorem zbg {r : R} : turnD (some [.val (.bool true)]) (some [r]) = r.fz.map some := rfl
theorem o_len {l : List D} : opF .len [.list l] = some (.val (.int (l.length : Int))) := rfl
theorem o_sub {a b : Int} : opF .sub [.int a, .int b] = some (.val (.int (a - b))) := rfl
theorem o_neg {a : Int} : opF .neg [.int a] = some (.val (.int (-a))) := rfl
theorem zce : opRange [.int 1, .int 0, .int (-1)] = some [.int 1] := rfl
theorem zcK {a b : D} : opF .index [.list [a, b], .int 0] = some (.val a) := rfl
theorem zcJ {a b : D} : opF .index [.list [a, b], .int 1] = some (.val b) := rfl
theorem zcH {a : Nat} : opF .index [.str [a], .int 0] = some (.val (.str [a])) := rfl
theorem zcG {a : Nat} : opF .index [.str [a], .int (-1)] = some (.val (.str [a])) := rfl
theorem zcd {a b : Nat} : opF .index [.str [a, b], .int (-1)] = some (.val (.str [b])) := rfl
theorem o_gt1 {a b : Nat} : opF .gt [.str [a], .str [b]] = some (.val (.bool (decide (b < a)))) := by
  show some (R.val (.bool (decide (([b] : List Nat) < [a])))) = _
  congr 3
  rw [lt_cons_cons, lt_nil_nil]
  simp
theorem zdV {a : Nat} : opF .slice [.str [a], .none, .int (-1)] = some (.val (.str [])) := rfl
theorem zdU {a b : Nat} : opF .slice [.str [a, b], .none, .int (-1)] = some (.val (.str [a])) := rfl
theorem o_sl1 {a : Nat} : opF .slice [.str [a], .int 1, .none] = some (.val (.str [])) := rfl
theorem zcM : opF .add [.str [], .str []] = some (.val (.str [])) := rfl
theorem zcL {a : Nat} : opF .add [.str [a], .str []] = some (.val (.str [a])) := rfl
theorem zcI {a b : Nat} : opF .join [.str [45], .list [.str [a], .str [b]]] = some (.val (.str [a, 45, b])) := rfl
theorem zcg : opF .join [.str [45], .list [.str []]] = some (.val (.str [])) := rfl
theorem zcf {a : Nat} : opF .join [.str [45], .list [.str [a]]] = some (.val (.str [a])) := rfl
theorem P_add1 {p k : Nat} : opF .add [P p k, .int 1] = some (.val (P p (k + 1))) := P_add k 1
theorem P_add2 {p k : Nat} : opF .add [P p k, .int 2] = some (.val (P p (k + 2))) := P_add k 2
theorem P_add3 {p k : Nat} : opF .add [P p k, .int 3] = some (.val (P p (k + 3))) := P_add k 3
theorem za7 (c : Nat) (b : List Nat) : opF .notin [.str [c], .str b] = some (.val (.bool (!decide (c ∈ b)))) := by
  show some (R.val (.bool (!Txt.contains ⟨b.toArray⟩ ⟨[c].toArray⟩))) = _
  rw [zi5]
theorem zbq {a : List Nat} {c : Nat} {d : List Nat} (h : decide (c ∈ a) = false) : opF .replace [.str a, .str [c], .str d] = some (.val (.str a)) := by
  show (if (occurrences ⟨a.toArray⟩ ⟨[c].toArray⟩ 0 a.length (a.length + 1)).isEmpty = true then some (R.val (.str a)) else none) = _
  rw [noOcc1, h]; rfl
section
variable {pat u : List Nat} {p : Nat}
theorem find1' (H : At pat p u) {c a b : Nat} (ha : a ≤ 100000) (hb : b ≤ 100000) (hab : (u[b]?).isSome = true) : opF .find4 [.str pat, .str [c], P p a, P p b] = some (.val (match firstAt c (cut u a b) with | some m => P p (a + m) | none => .int (-1))) :=
  find1 H ha hb (by rw [zeS, decide_eq_true_eq] at hab; omega)
end
set_option genInjectivity false in
structure Fx (pat : List Nat) (I : Nat → D) (n : D) (u : List Nat) : Prop where
  i : ∀ k, k ≤ 100000 → opF .index [.str pat, I k] = (u[k]?).map fun c => .val (.str [c])
  l : ∀ k, opF .lt [I k, n] = some (.val (.bool (u[k]?).isSome))
  g : ∀ k, opF .ge [I k, n] = some (.val (.bool (!(u[k]?).isSome)))
  s : ∀ a b, a ≤ 100000 → b ≤ 100000 → opF .slice [.str pat, I a, I b] = some (.val (.str (cut u a b)))
  f : ∀ c a b, a ≤ 100000 → b ≤ 100000 → (u[b]?).isSome = true → opF .find4 [.str pat, .str [c], I a, I b] = some (.val (match firstAt c (cut u a b) with | some m => I (a + m) | none => .int (-1)))
  a1 : ∀ k, opF .add [I k, .int 1] = some (.val (I (k + 1)))
  a2 : ∀ k, opF .add [I k, .int 2] = some (.val (I (k + 2)))
  a3 : ∀ k, opF .add [I k, .int 3] = some (.val (I (k + 3)))
  z : ∀ k, opF .lt [I k, .int 0] = some (.val (.bool false))
theorem At.fx {pat u : List Nat} {p : Nat} (H : At pat p u) : Fx pat (P p) (N pat) u := ⟨fun _ h => idx H h, fun _ => lt_N H, fun _ => ge_N H, fun _ _ h1 h2 => sl H h1 h2, fun _ _ _ h1 h2 h3 => find1' H h1 h2 h3, fun _ => P_add1, fun _ => P_add2, fun _ => P_add3, fun _ => lt_0⟩
inductive TState (pat : List Nat) (n : D) (q : D) (r : List D) (i : D) (ρ : List Slot) : Prop
  | mk (j7 j8 j9 j10 j11 j12 j13 : Slot) (h0 : ρ = [.val (.str pat), .val (.tok 0), .val q, .own r, .app 3, .val i, .val n, j7, j8, j9, j10, j11, j12, j13]) (h7 : appOK 10 j7 = true) (h8 : appOK 10 j8 = true) (h9 : appOK 10 j9 = true) (h10 : appOK 10 j10 = true) (h11 : appOK 10 j11 = true) (h12 : appOK 10 j12 = true) (h13 : appOK 10 j13 = true)
section
variable {pat v : List Nat} {I : Nat → D} {n : D} {ρ : List Slot} {cf : CfT} {q : D} {r : List D} {j7 j8 j9 j10 j11 j12 j13 : Slot}
theorem ziq {r : List D} {d : D} : opF .index [.list (r ++ [d]), .int (-1)] = some (.val d) := by
  show (if small (-1) = true then (match place (-1) (r ++ [d]).length with | some k => ((r ++ [d])[k]?).map R.val | none => none) else none) = _
  rw [if_pos (by decide)]
  unfold place
  rw [if_neg (by decide), if_pos (by simp; omega)]
  have e : (-1 + ((r ++ [d]).length : Int)).toNat = r.length := by simp; omega
  simp only [e]
  simp
theorem zen {r : List D} {d : D} : (r ++ [d]).isEmpty = false := by
  cases r <;> rfl
end
theorem zct {fns : Nat → Option Fn} {n f : Nat} {args : List D} {fn : Fn} {ρ : List Slot} {d : D} (h1 : fns f = some fn) (h2 : bindD fn args = some ρ) (h3 : ∃ ρ', ex (callF fns n) fn.body ρ = some (ρ', .ret d)) : callF fns (n + 1) f args = some d := by
  obtain ⟨ρ', h3⟩ := h3
  unfold callF
  rw [h1]
  simp only [h2, h3]
noncomputable def esc (c : Nat) : List Nat := if special.contains c then [92, c] else [c]
noncomputable def EscOK (cf : CfT) : Prop := ∀ c, c < 128 → cf 0 [.str [c]] = some (.str (esc c))
theorem zgm {c : Nat} (h : c < 128) : opF .translate [.str [c]] = some (.val (.str (esc c))) := by
  show (if c < 128 then some (R.val (.str (if special.contains c then [92, c] else [c]))) else none) = _
  rw [if_pos h]; rfl
theorem ziZ {fns : Nat → Option Fn} (h0 : fns 0 = some fn_escape) (m : Nat) : EscOK (callF fns (m + 1)) := by
  intro c hc
  refine zct h0 (ρ := [.val (.str [c])]) rfl ?_
  show ∃ ρ', ex (callF fns m) s_escape _ = _
  unfold s_escape
  refine ⟨_, R_seq (R_ite (t := true) rfl (R_tt (R_seq (R_ret (d := .str (esc c)) ?_) zai))) zai⟩
  simp only [zbK, zam, zaX, zby, zbd, zaA, zaI, zaZ, zbl, zaY, zaW, zaE, zbc, zaP, zaK, zaD, zav, zaT, zaJ, zal, zaC, zaS, List.getElem?_cons_zero, List.map_cons, List.map_nil, R.ds, zgm hc, Option.map_some, za4, R.fz]
noncomputable def GoodD (d : D) : Prop := opF .isnot [d, .tok 0] = some (.val (.bool true))
noncomputable def GoodL (r : List D) : Prop := ∀ d ∈ r, GoodD d ∨ d = .tok 0
noncomputable def isTok0 : D → Bool
  | .tok 0 => true
  | _ => false
theorem ziN {d : D} (h : isTok0 d = true) : d = .tok 0 := by
  unfold isTok0 at h
  split at h
  · rfl
  · cases h
noncomputable def pushA (r : List D) : Option D → List D
  | none => if r.getLast?.map isTok0 = some true then r else r ++ [.tok 0]
  | some d => r ++ [d]
theorem At.skip {pat u : List Nat} {p k : Nat} (H : At pat p u) (h : k ≤ u.length) : At pat (p + k) (u.drop k) := by
  refine ⟨?_, ?_, H.small⟩
  · rw [← List.drop_drop, H.drop]
  · have := H.len; omega
theorem P_skip {p k : Nat} : P (p + k) 0 = P p k := by unfold P; rfl
noncomputable def outA (r : List D) (as : List (List Nat × Option D)) : List D := as.foldl (fun r a => pushA r a.2) r
noncomputable def textA (as : List (List Nat × Option D)) : List Nat := as.flatMap (·.1)
theorem zhs {r : List D} {a : Option D} (h : GoodL r) (ha : ∀ d, a = some d → GoodD d ∨ d = .tok 0) : GoodL (pushA r a) := by
  unfold pushA
  cases a with
  | none =>
    simp only
    split
    · exact h
    · intro d hd
      rcases List.mem_append.mp hd with hd | hd
      · exact h d hd
      · exact .inr (List.mem_singleton.mp hd)
  | some d0 =>
    intro d hd
    rcases List.mem_append.mp hd with hd | hd
    · exact h d hd
    · rw [List.mem_singleton.mp hd]; exact ha d0 rfl
theorem zij {r : List D} {a : Option D} : (pushA r a).length ≤ r.length + 1 := by
  unfold pushA
  cases a with
  | none => simp only; split <;> simp
  | some d => simp
end Mine
end
section
open PySem
namespace Mine
noncomputable def fns02 : Nat → Option Fn := fun i => ([(0, fn_escape), (1, fn_translate2), (2, fn_fspath), (3, fn_get_sep), (4, fn_join), (5, fn_split), (14, fn_law_one), (15, fn_law_takes), (20, fn_law_climb), (21, fn_law_spread), (22, fn_law_by_names)] : List (Nat × Fn)).lookup i
end Mine
end
section
open PySem PySem.StrLaws PySem.Builtin PySem.Builtin.Str
namespace Mine
noncomputable def tBody2 : S := match s_translate2 with
  | .seq _ (.seq _ (.seq _ (.seq (.while _ b) _))) => b
  | _ => .skip
noncomputable def tCond2 : X := match s_translate2 with
  | .seq _ (.seq _ (.seq _ (.seq (.while c _) _))) => c
  | _ => .nil
section
variable {pat v : List Nat} {I : Nat → D} {n : D} {ρ : List Slot} {cf : CfT} {q : D} {r : List D} {j7 j8 j9 j10 j11 j12 j13 : Slot}
theorem zjo (H : Fx pat I n (63 :: v)) (hr : r.length < lim) (S : TState pat n q r (I 0) ρ) : ∃ ρ', ex cf tBody2 ρ = some (ρ', .next) ∧ TState pat n q (r ++ [q]) (I 1) ρ' := by
  obtain ⟨hi, hl, hg, hs, hf, ha1, ha2, ha3, hz⟩ := H
  obtain ⟨j7, j8, j9, j10, j11, j12, j13, rfl, h7, h8, h9, h10, h11, h12, h13⟩ := S
  refine ⟨?w, ?h1, ?h2⟩
  case h1 =>
    unfold tBody2 s_translate2
    (repeat' (first | with_reducible (first | exact zan | apply R_seq | exact za9 | exact zaU | exact zai | refine zaf ?_ | apply R_ite | refine R_tt ?_ | refine R_ff ?_ | apply zbz | apply zaL | exact zbB | apply R_wGo | refine zbA ?_ | exact zb5 | exact zb4 | apply R_for | exact zbr | apply zaM | refine zbp ?_ | refine zbF ?_ | exact zb6 | exact zbZ | apply zak | apply zaR | apply zaG | apply za0 | apply zbG | apply R_ret | apply zaF | apply R_fz) | (((try simp (config := {failIfUnchanged := false}) only [zbK, zbS, zbY, za4, zat, zaw, zam, zaX, zby, zbd, zaA, zaI, zaZ, zbl, zaY, zaW, zaE, zbc, zaP, zaK, zaD, zav, zaT, zaJ, zal, zaC, zaS, fzAll, ownAt, dS3, dS10, Mine.R.ds, Mine.R.fz, Mine.D.truth, List.map_cons, List.map_nil, List.getElem?_cons_zero, List.getElem?_cons_succ, List.getElem?_nil, Option.map_some, Option.map_none, List.set_cons_zero, List.set_cons_succ, eq_str, ne_str, za7, zbq, List.cons.injEq, and_true, and_false, true_and, false_and, Nat.reduceEqDiff, decide_true, decide_false, reduceCtorEq, Bool.not_true, Bool.not_false, Nat.reduceAdd, List.isEmpty_cons, List.isEmpty_nil, Nat.reduceLeDiff, Nat.zero_le, Option.isSome_some, Option.isSome_none, zbj, List.all_cons, List.all_nil, zay, zaz, zaB, za8, Bool.and_true, Bool.true_and, cut, List.drop_succ_cons, List.drop_zero, List.take_succ_cons, List.take_zero, Nat.reduceSub, firstAt, reduceIte, List.mem_cons, List.not_mem_nil, or_false, false_or, or_true, true_or, itemsOf, Option.bind_some, o_len, o_sub, o_neg, zce, zcK, zcJ, zcH, zcG, zcd, o_gt1, zdV, zdU, o_sl1, zcM, zcL, zcI, zcg, zcf, List.nil_append, List.cons_append, List.length_cons, List.length_nil, Int.reduceSub, Int.reduceNeg, Int.reduceToNat, Int.toNat_zero, Int.toNat_one, Int.reduceAdd, Int.cast_ofNat_Int, Int.natCast_one, Int.natCast_zero, Int.zero_add, Nat.zero_add, List.eraseIdx_cons_succ, List.eraseIdx_cons_zero, Nat.reduceLT, compGo, zbg, repX, *]) <;> rfl)) | (show (_ : Nat) < lim; decide) | decide))
  case h2 =>
    refine ⟨_, _, _, _, _, _, _, rfl, ?_, ?_, ?_, ?_, ?_, ?_, ?_⟩ <;> first | exact zay | exact zaz | assumption
theorem zfm (H : Fx pat I n (42 :: v)) (S : TState pat n q [] (I 0) ρ) : ∃ ρ', ex cf tBody2 ρ = some (ρ', .next) ∧ TState pat n q [.tok 0] (I 1) ρ' := by
  obtain ⟨hi, hl, hg, hs, hf, ha1, ha2, ha3, hz⟩ := H
  obtain ⟨j7, j8, j9, j10, j11, j12, j13, rfl, h7, h8, h9, h10, h11, h12, h13⟩ := S
  refine ⟨?w, ?h1, ?h2⟩
  case h1 =>
    unfold tBody2 s_translate2
    (repeat' (first | with_reducible (first | exact zan | apply R_seq | exact za9 | exact zaU | exact zai | refine zaf ?_ | apply R_ite | refine R_tt ?_ | refine R_ff ?_ | apply zbz | apply zaL | exact zbB | apply R_wGo | refine zbA ?_ | exact zb5 | exact zb4 | apply R_for | exact zbr | apply zaM | refine zbp ?_ | refine zbF ?_ | exact zb6 | exact zbZ | apply zak | apply zaR | apply zaG | apply za0 | apply zbG | apply R_ret | apply zaF | apply R_fz) | (((try simp (config := {failIfUnchanged := false}) only [zbK, zbS, zbY, za4, zat, zaw, zam, zaX, zby, zbd, zaA, zaI, zaZ, zbl, zaY, zaW, zaE, zbc, zaP, zaK, zaD, zav, zaT, zaJ, zal, zaC, zaS, fzAll, ownAt, dS3, dS10, Mine.R.ds, Mine.R.fz, Mine.D.truth, List.map_cons, List.map_nil, List.getElem?_cons_zero, List.getElem?_cons_succ, List.getElem?_nil, Option.map_some, Option.map_none, List.set_cons_zero, List.set_cons_succ, eq_str, ne_str, za7, zbq, List.cons.injEq, and_true, and_false, true_and, false_and, Nat.reduceEqDiff, decide_true, decide_false, reduceCtorEq, Bool.not_true, Bool.not_false, Nat.reduceAdd, List.isEmpty_cons, List.isEmpty_nil, Nat.reduceLeDiff, Nat.zero_le, Option.isSome_some, Option.isSome_none, zbj, List.all_cons, List.all_nil, zay, zaz, zaB, za8, Bool.and_true, Bool.true_and, cut, List.drop_succ_cons, List.drop_zero, List.take_succ_cons, List.take_zero, Nat.reduceSub, firstAt, reduceIte, List.mem_cons, List.not_mem_nil, or_false, false_or, or_true, true_or, itemsOf, Option.bind_some, o_len, o_sub, o_neg, zce, zcK, zcJ, zcH, zcG, zcd, o_gt1, zdV, zdU, o_sl1, zcM, zcL, zcI, zcg, zcf, List.nil_append, List.cons_append, List.length_cons, List.length_nil, Int.reduceSub, Int.reduceNeg, Int.reduceToNat, Int.toNat_zero, Int.toNat_one, Int.reduceAdd, Int.cast_ofNat_Int, Int.natCast_one, Int.natCast_zero, Int.zero_add, Nat.zero_add, List.eraseIdx_cons_succ, List.eraseIdx_cons_zero, Nat.reduceLT, compGo, zbg, repX, *]) <;> rfl)) | (show (_ : Nat) < lim; decide) | decide))
  case h2 =>
    refine ⟨_, _, _, _, _, _, _, rfl, ?_, ?_, ?_, ?_, ?_, ?_, ?_⟩ <;> first | exact zay | exact zaz | assumption
theorem zfl (H : Fx pat I n (42 :: v)) (S : TState pat n q (r ++ [.tok 0]) (I 0) ρ) : ∃ ρ', ex cf tBody2 ρ = some (ρ', .next) ∧ TState pat n q (r ++ [.tok 0]) (I 1) ρ' := by
  obtain ⟨hi, hl, hg, hs, hf, ha1, ha2, ha3, hz⟩ := H
  obtain ⟨j7, j8, j9, j10, j11, j12, j13, rfl, h7, h8, h9, h10, h11, h12, h13⟩ := S
  have t1 := zen (r := r) (d := .tok 0)
  have t2 := ziq (r := r) (d := .tok 0)
  have t3 : opF .isnot [.tok 0, .tok 0] = some (.val (.bool false)) := rfl
  refine ⟨?w, ?h1, ?h2⟩
  case h1 =>
    unfold tBody2 s_translate2
    (repeat' (first | with_reducible (first | exact zan | apply R_seq | exact za9 | exact zaU | exact zai | refine zaf ?_ | apply R_ite | refine R_tt ?_ | refine R_ff ?_ | apply zbz | apply zaL | exact zbB | apply R_wGo | refine zbA ?_ | exact zb5 | exact zb4 | apply R_for | exact zbr | apply zaM | refine zbp ?_ | refine zbF ?_ | exact zb6 | exact zbZ | apply zak | apply zaR | apply zaG | apply za0 | apply zbG | apply R_ret | apply zaF | apply R_fz) | (((try simp (config := {failIfUnchanged := false}) only [zbK, zbS, zbY, za4, zat, zaw, zam, zaX, zby, zbd, zaA, zaI, zaZ, zbl, zaY, zaW, zaE, zbc, zaP, zaK, zaD, zav, zaT, zaJ, zal, zaC, zaS, fzAll, ownAt, dS3, dS10, Mine.R.ds, Mine.R.fz, Mine.D.truth, List.map_cons, List.map_nil, List.getElem?_cons_zero, List.getElem?_cons_succ, List.getElem?_nil, Option.map_some, Option.map_none, List.set_cons_zero, List.set_cons_succ, eq_str, ne_str, za7, zbq, List.cons.injEq, and_true, and_false, true_and, false_and, Nat.reduceEqDiff, decide_true, decide_false, reduceCtorEq, Bool.not_true, Bool.not_false, Nat.reduceAdd, List.isEmpty_cons, List.isEmpty_nil, Nat.reduceLeDiff, Nat.zero_le, Option.isSome_some, Option.isSome_none, zbj, List.all_cons, List.all_nil, zay, zaz, zaB, za8, Bool.and_true, Bool.true_and, cut, List.drop_succ_cons, List.drop_zero, List.take_succ_cons, List.take_zero, Nat.reduceSub, firstAt, reduceIte, List.mem_cons, List.not_mem_nil, or_false, false_or, or_true, true_or, itemsOf, Option.bind_some, o_len, o_sub, o_neg, zce, zcK, zcJ, zcH, zcG, zcd, o_gt1, zdV, zdU, o_sl1, zcM, zcL, zcI, zcg, zcf, List.nil_append, List.cons_append, List.length_cons, List.length_nil, Int.reduceSub, Int.reduceNeg, Int.reduceToNat, Int.toNat_zero, Int.toNat_one, Int.reduceAdd, Int.cast_ofNat_Int, Int.natCast_one, Int.natCast_zero, Int.zero_add, Nat.zero_add, List.eraseIdx_cons_succ, List.eraseIdx_cons_zero, Nat.reduceLT, compGo, zbg, repX, *]) <;> rfl)) | (show (_ : Nat) < lim; decide) | decide))
  case h2 =>
    refine ⟨_, _, _, _, _, _, _, rfl, ?_, ?_, ?_, ?_, ?_, ?_, ?_⟩ <;> first | exact zay | exact zaz | assumption
theorem zfk {d : D} (hd : opF .isnot [d, .tok 0] = some (.val (.bool true))) (hr : (r ++ [d]).length < lim) (H : Fx pat I n (42 :: v)) (S : TState pat n q (r ++ [d]) (I 0) ρ) : ∃ ρ', ex cf tBody2 ρ = some (ρ', .next) ∧ TState pat n q (r ++ [d] ++ [.tok 0]) (I 1) ρ' := by
  obtain ⟨hi, hl, hg, hs, hf, ha1, ha2, ha3, hz⟩ := H
  obtain ⟨j7, j8, j9, j10, j11, j12, j13, rfl, h7, h8, h9, h10, h11, h12, h13⟩ := S
  have t1 := zen (r := r) (d := d)
  have t2 := ziq (r := r) (d := d)
  refine ⟨?w, ?h1, ?h2⟩
  case h1 =>
    unfold tBody2 s_translate2
    (repeat' (first | with_reducible (first | exact zan | apply R_seq | exact za9 | exact zaU | exact zai | refine zaf ?_ | apply R_ite | refine R_tt ?_ | refine R_ff ?_ | apply zbz | apply zaL | exact zbB | apply R_wGo | refine zbA ?_ | exact zb5 | exact zb4 | apply R_for | exact zbr | apply zaM | refine zbp ?_ | refine zbF ?_ | exact zb6 | exact zbZ | apply zak | apply zaR | apply zaG | apply za0 | apply zbG | apply R_ret | apply zaF | apply R_fz) | (((try simp (config := {failIfUnchanged := false}) only [zbK, zbS, zbY, za4, zat, zaw, zam, zaX, zby, zbd, zaA, zaI, zaZ, zbl, zaY, zaW, zaE, zbc, zaP, zaK, zaD, zav, zaT, zaJ, zal, zaC, zaS, fzAll, ownAt, dS3, dS10, Mine.R.ds, Mine.R.fz, Mine.D.truth, List.map_cons, List.map_nil, List.getElem?_cons_zero, List.getElem?_cons_succ, List.getElem?_nil, Option.map_some, Option.map_none, List.set_cons_zero, List.set_cons_succ, eq_str, ne_str, za7, zbq, List.cons.injEq, and_true, and_false, true_and, false_and, Nat.reduceEqDiff, decide_true, decide_false, reduceCtorEq, Bool.not_true, Bool.not_false, Nat.reduceAdd, List.isEmpty_cons, List.isEmpty_nil, Nat.reduceLeDiff, Nat.zero_le, Option.isSome_some, Option.isSome_none, zbj, List.all_cons, List.all_nil, zay, zaz, zaB, za8, Bool.and_true, Bool.true_and, cut, List.drop_succ_cons, List.drop_zero, List.take_succ_cons, List.take_zero, Nat.reduceSub, firstAt, reduceIte, List.mem_cons, List.not_mem_nil, or_false, false_or, or_true, true_or, itemsOf, Option.bind_some, o_len, o_sub, o_neg, zce, zcK, zcJ, zcH, zcG, zcd, o_gt1, zdV, zdU, o_sl1, zcM, zcL, zcI, zcg, zcf, List.nil_append, List.cons_append, List.length_cons, List.length_nil, Int.reduceSub, Int.reduceNeg, Int.reduceToNat, Int.toNat_zero, Int.toNat_one, Int.reduceAdd, Int.cast_ofNat_Int, Int.natCast_one, Int.natCast_zero, Int.zero_add, Nat.zero_add, List.eraseIdx_cons_succ, List.eraseIdx_cons_zero, Nat.reduceLT, compGo, zbg, repX, *]) <;> rfl)) | (show (_ : Nat) < lim; decide) | decide))
  case h2 =>
    refine ⟨_, _, _, _, _, _, _, rfl, ?_, ?_, ?_, ?_, ?_, ?_, ?_⟩ <;> first | exact zay | exact zaz | assumption
theorem zf5 {c : Nat} {e : List Nat} (c1 : ¬ c = 42) (c2 : ¬ c = 63) (c3 : ¬ c = 91) (hE : cf 0 [.str [c]] = some (.str e)) (hr : r.length < lim) (H : Fx pat I n (c :: v)) (S : TState pat n q r (I 0) ρ) : ∃ ρ', ex cf tBody2 ρ = some (ρ', .next) ∧ TState pat n q (r ++ [.str e]) (I 1) ρ' := by
  obtain ⟨hi, hl, hg, hs, hf, ha1, ha2, ha3, hz⟩ := H
  obtain ⟨j7, j8, j9, j10, j11, j12, j13, rfl, h7, h8, h9, h10, h11, h12, h13⟩ := S
  refine ⟨?w, ?h1, ?h2⟩
  case h1 =>
    unfold tBody2 s_translate2
    (repeat' (first | with_reducible (first | exact zan | apply R_seq | exact za9 | exact zaU | exact zai | refine zaf ?_ | apply R_ite | refine R_tt ?_ | refine R_ff ?_ | apply zbz | apply zaL | exact zbB | apply R_wGo | refine zbA ?_ | exact zb5 | exact zb4 | apply R_for | exact zbr | apply zaM | refine zbp ?_ | refine zbF ?_ | exact zb6 | exact zbZ | apply zak | apply zaR | apply zaG | apply za0 | apply zbG | apply R_ret | apply zaF | apply R_fz) | (((try simp (config := {failIfUnchanged := false}) only [zbK, zbS, zbY, za4, zat, zaw, zam, zaX, zby, zbd, zaA, zaI, zaZ, zbl, zaY, zaW, zaE, zbc, zaP, zaK, zaD, zav, zaT, zaJ, zal, zaC, zaS, fzAll, ownAt, dS3, dS10, Mine.R.ds, Mine.R.fz, Mine.D.truth, List.map_cons, List.map_nil, List.getElem?_cons_zero, List.getElem?_cons_succ, List.getElem?_nil, Option.map_some, Option.map_none, List.set_cons_zero, List.set_cons_succ, eq_str, ne_str, za7, zbq, List.cons.injEq, and_true, and_false, true_and, false_and, Nat.reduceEqDiff, decide_true, decide_false, reduceCtorEq, Bool.not_true, Bool.not_false, Nat.reduceAdd, List.isEmpty_cons, List.isEmpty_nil, Nat.reduceLeDiff, Nat.zero_le, Option.isSome_some, Option.isSome_none, zbj, List.all_cons, List.all_nil, zay, zaz, zaB, za8, Bool.and_true, Bool.true_and, cut, List.drop_succ_cons, List.drop_zero, List.take_succ_cons, List.take_zero, Nat.reduceSub, firstAt, reduceIte, List.mem_cons, List.not_mem_nil, or_false, false_or, or_true, true_or, itemsOf, Option.bind_some, o_len, o_sub, o_neg, zce, zcK, zcJ, zcH, zcG, zcd, o_gt1, zdV, zdU, o_sl1, zcM, zcL, zcI, zcg, zcf, List.nil_append, List.cons_append, List.length_cons, List.length_nil, Int.reduceSub, Int.reduceNeg, Int.reduceToNat, Int.toNat_zero, Int.toNat_one, Int.reduceAdd, Int.cast_ofNat_Int, Int.natCast_one, Int.natCast_zero, Int.zero_add, Nat.zero_add, List.eraseIdx_cons_succ, List.eraseIdx_cons_zero, Nat.reduceLT, compGo, zbg, repX, *]) <;> rfl)) | (show (_ : Nat) < lim; decide) | decide))
  case h2 =>
    refine ⟨_, _, _, _, _, _, _, rfl, ?_, ?_, ?_, ?_, ?_, ?_, ?_⟩ <;> first | exact zay | exact zaz | assumption
theorem zhX (H : Fx pat I n (91 :: 33 :: 97 :: 93 :: v)) (hr : r.length < lim) (S : TState pat n q r (I 0) ρ) : ∃ ρ', ex cf tBody2 ρ = some (ρ', .next) ∧ TState pat n q (r ++ [.str [91, 94, 97, 93]]) (I 4) ρ' := by
  obtain ⟨hi, hl, hg, hs, hf, ha1, ha2, ha3, hz⟩ := H
  obtain ⟨j7, j8, j9, j10, j11, j12, j13, rfl, h7, h8, h9, h10, h11, h12, h13⟩ := S
  refine ⟨?w, ?h1, ?h2⟩
  case h1 =>
    unfold tBody2 s_translate2
    (repeat' (first | with_reducible (first | exact zan | apply R_seq | exact za9 | exact zaU | exact zai | refine zaf ?_ | apply R_ite | refine R_tt ?_ | refine R_ff ?_ | apply zbz | apply zaL | exact zbB | apply R_wGo | refine zbA ?_ | exact zb5 | exact zb4 | apply R_for | exact zbr | apply zaM | refine zbp ?_ | refine zbF ?_ | exact zb6 | exact zbZ | apply zak | apply zaR | apply zaG | apply za0 | apply zbG | apply R_ret | apply zaF | apply R_fz) | (((try simp (config := {failIfUnchanged := false}) only [zbK, zbS, zbY, za4, zat, zaw, zam, zaX, zby, zbd, zaA, zaI, zaZ, zbl, zaY, zaW, zaE, zbc, zaP, zaK, zaD, zav, zaT, zaJ, zal, zaC, zaS, fzAll, ownAt, dS3, dS10, Mine.R.ds, Mine.R.fz, Mine.D.truth, List.map_cons, List.map_nil, List.getElem?_cons_zero, List.getElem?_cons_succ, List.getElem?_nil, Option.map_some, Option.map_none, List.set_cons_zero, List.set_cons_succ, eq_str, ne_str, za7, zbq, List.cons.injEq, and_true, and_false, true_and, false_and, Nat.reduceEqDiff, decide_true, decide_false, reduceCtorEq, Bool.not_true, Bool.not_false, Nat.reduceAdd, List.isEmpty_cons, List.isEmpty_nil, Nat.reduceLeDiff, Nat.zero_le, Option.isSome_some, Option.isSome_none, zbj, List.all_cons, List.all_nil, zay, zaz, zaB, za8, Bool.and_true, Bool.true_and, cut, List.drop_succ_cons, List.drop_zero, List.take_succ_cons, List.take_zero, Nat.reduceSub, firstAt, reduceIte, List.mem_cons, List.not_mem_nil, or_false, false_or, or_true, true_or, itemsOf, Option.bind_some, o_len, o_sub, o_neg, zce, zcK, zcJ, zcH, zcG, zcd, o_gt1, zdV, zdU, o_sl1, zcM, zcL, zcI, zcg, zcf, List.nil_append, List.cons_append, List.length_cons, List.length_nil, Int.reduceSub, Int.reduceNeg, Int.reduceToNat, Int.toNat_zero, Int.toNat_one, Int.reduceAdd, Int.cast_ofNat_Int, Int.natCast_one, Int.natCast_zero, Int.zero_add, Nat.zero_add, List.eraseIdx_cons_succ, List.eraseIdx_cons_zero, Nat.reduceLT, compGo, zbg, repX, *]) <;> rfl)) | (show (_ : Nat) < lim; decide) | decide))
  case h2 =>
    refine ⟨_, _, _, _, _, _, _, rfl, ?_, ?_, ?_, ?_, ?_, ?_, ?_⟩ <;> first | exact zay | exact zaz | assumption
theorem zhY (H : Fx pat I n (91 :: 97 :: 45 :: 98 :: 93 :: v)) (hr : r.length < lim) (S : TState pat n q r (I 0) ρ) : ∃ ρ', ex cf tBody2 ρ = some (ρ', .next) ∧ TState pat n q (r ++ [.str [91, 97, 45, 98, 93]]) (I 5) ρ' := by
  obtain ⟨hi, hl, hg, hs, hf, ha1, ha2, ha3, hz⟩ := H
  obtain ⟨j7, j8, j9, j10, j11, j12, j13, rfl, h7, h8, h9, h10, h11, h12, h13⟩ := S
  refine ⟨?w, ?h1, ?h2⟩
  case h1 =>
    unfold tBody2 s_translate2
    (repeat' (first | with_reducible (first | exact zan | apply R_seq | exact za9 | exact zaU | exact zai | refine zaf ?_ | apply R_ite | refine R_tt ?_ | refine R_ff ?_ | apply zbz | apply zaL | exact zbB | apply R_wGo | refine zbA ?_ | exact zb5 | exact zb4 | apply R_for | exact zbr | apply zaM | refine zbp ?_ | refine zbF ?_ | exact zb6 | exact zbZ | apply zak | apply zaR | apply zaG | apply za0 | apply zbG | apply R_ret | apply zaF | apply R_fz) | (((try simp (config := {failIfUnchanged := false}) only [zbK, zbS, zbY, za4, zat, zaw, zam, zaX, zby, zbd, zaA, zaI, zaZ, zbl, zaY, zaW, zaE, zbc, zaP, zaK, zaD, zav, zaT, zaJ, zal, zaC, zaS, fzAll, ownAt, dS3, dS10, Mine.R.ds, Mine.R.fz, Mine.D.truth, List.map_cons, List.map_nil, List.getElem?_cons_zero, List.getElem?_cons_succ, List.getElem?_nil, Option.map_some, Option.map_none, List.set_cons_zero, List.set_cons_succ, eq_str, ne_str, za7, zbq, List.cons.injEq, and_true, and_false, true_and, false_and, Nat.reduceEqDiff, decide_true, decide_false, reduceCtorEq, Bool.not_true, Bool.not_false, Nat.reduceAdd, List.isEmpty_cons, List.isEmpty_nil, Nat.reduceLeDiff, Nat.zero_le, Option.isSome_some, Option.isSome_none, zbj, List.all_cons, List.all_nil, zay, zaz, zaB, za8, Bool.and_true, Bool.true_and, cut, List.drop_succ_cons, List.drop_zero, List.take_succ_cons, List.take_zero, Nat.reduceSub, firstAt, reduceIte, List.mem_cons, List.not_mem_nil, or_false, false_or, or_true, true_or, itemsOf, Option.bind_some, o_len, o_sub, o_neg, zce, zcK, zcJ, zcH, zcG, zcd, o_gt1, zdV, zdU, o_sl1, zcM, zcL, zcI, zcg, zcf, List.nil_append, List.cons_append, List.length_cons, List.length_nil, Int.reduceSub, Int.reduceNeg, Int.reduceToNat, Int.toNat_zero, Int.toNat_one, Int.reduceAdd, Int.cast_ofNat_Int, Int.natCast_one, Int.natCast_zero, Int.zero_add, Nat.zero_add, List.eraseIdx_cons_succ, List.eraseIdx_cons_zero, Nat.reduceLT, compGo, zbg, repX, *]) <;> rfl)) | (show (_ : Nat) < lim; decide) | decide))
  case h2 =>
    refine ⟨_, _, _, _, _, _, _, rfl, ?_, ?_, ?_, ?_, ?_, ?_, ?_⟩ <;> first | exact zay | exact zaz | assumption
end
set_option genInjectivity false in
structure TurnOK2 (q : D) (u : List Nat) (k : Nat) (r r' : List D) : Prop where
  pos : 1 ≤ k
  le : k ≤ u.length
  run : ∀ cf pat I n ρ, EscOK cf → Fx pat I n u → TState pat n q r (I 0) ρ → ∃ ρ', ex cf tBody2 ρ = some (ρ', .next) ∧ TState pat n q r' (I k) ρ'
inductive Tr2 (q : D) : List Nat → List D → List D → Prop
  | nil {r : List D} : Tr2 q [] r r
  | step {u : List Nat} {k : Nat} {r r' out : List D} : TurnOK2 q u k r r' → Tr2 q (u.drop k) r' out → Tr2 q u r out
theorem zfr {cf : CfT} {pat u : List Nat} {p : Nat} {q : D} {r : List D} {ρ : List Slot} (H : At pat p u) (S : TState pat (N pat) q r (P p 0) ρ) : evT cf tCond2 ρ = some (u[0]?).isSome := by
  obtain ⟨j7, j8, j9, j10, j11, j12, j13, rfl, hj⟩ := S
  have hl := lt_N H (k := 0)
  generalize P p 0 = i at hl ⊢
  generalize N pat = n at hl ⊢
  unfold tCond2 s_translate2
  simp only [zbS, zam, zaX, zby, zbd, zaA, zaI, zaZ, zbl, zaY, zaW, zaE, zbc, zaP, zaK, zaD, zav, zaT, zaJ, zal, zaC, zaS, List.getElem?_cons_succ, List.getElem?_cons_zero, Option.map_some, List.map_cons, List.map_nil, R.ds, hl, zaw, D.truth]
theorem tr_run2 {cf : CfT} (hE : EscOK cf) {q : D} {pat u : List Nat} {r out : List D} (t : Tr2 q u r out) : ∀ (p fuel : Nat) (ρ : List Slot), u.length ≤ fuel → At pat p u → TState pat (N pat) q r (P p 0) ρ →
    ∃ ρ', whileGo (evT cf tCond2) (ex cf tBody2) (fuel + 1) ρ = some (ρ', .next) ∧ TState pat (N pat) q out (P pat.length 0) ρ' := by
  induction t with
  | nil =>
    intro p fuel ρ hf H S
    refine ⟨ρ, zaL (t := false) (by rw [zfr H S]; rfl) zbB, ?_⟩
    have := H.len
    rw [this]
    exact S
  | @step u k r r' out T t ih =>
    intro p fuel ρ hf H S
    have hne : 1 ≤ u.length := Nat.le_trans T.pos T.le
    obtain ⟨ρ1, h1, S1⟩ := T.run cf pat (P p) (N pat) ρ hE H.fx S
    obtain ⟨fuel', rfl⟩ : ∃ f, fuel = f + 1 := ⟨fuel - 1, by omega⟩
    obtain ⟨ρ2, h2, S2⟩ := ih (p + k) fuel' ρ1 (by rw [List.length_drop]; have := T.pos; omega) (H.skip T.le) (by rw [P_skip]; exact S1)
    refine ⟨ρ2, zaL (t := true) ?_ (R_wGo h1 (zbA h2)), S2⟩
    rw [zfr H S, zeS]
    exact congrArg some (decide_eq_true hne)
theorem zeH {fns : Nat → Option Fn} (h0 : fns 0 = some fn_escape) (h1 : fns 1 = some fn_translate2) {q : D} {u : List Nat} {out : List D} (t : Tr2 q u [] out) (hu : u.length ≤ 99999) (m : Nat) : callF fns (m + 2) 1 [.str u, .tok 0, q] = some (.list out) := by
  refine zct h1 (ρ := [.val (.str u), .val (.tok 0), .val q, .unset, .unset, .unset, .unset, .unset, .unset, .unset, .unset, .unset, .unset, .unset]) rfl ?_
  show ∃ ρ', ex (callF fns (m + 1)) s_translate2 _ = _
  have H : At u 0 u := ⟨rfl, Nat.zero_le _, by omega⟩
  have S : TState u (N u) q [] (P 0 0) [.val (.str u), .val (.tok 0), .val q, .own [], .app 3, .val (P 0 0), .val (N u), .unset, .unset, .unset, .unset, .unset, .unset, .unset] := ⟨_, _, _, _, _, _, _, rfl, rfl, rfl, rfl, rfl, rfl, rfl, rfl⟩
  obtain ⟨ρ2, h2, S2⟩ := tr_run2 (ziZ h0 m) t 0 99999 _ hu H S
  obtain ⟨j7, j8, j9, j10, j11, j12, j13, rfl, hj⟩ := S2
  unfold s_translate2
  have eA : evT (callF fns (m + 1)) (.op .eq (.cons (.var 5) (.cons (.var 6) .nil))) [.val (.str u), .val (.tok 0), .val q, .own out, .app 3, .val (P u.length 0), .val (N u), j7, j8, j9, j10, j11, j12, j13] = some true := by
    have e : opF .eq [P u.length 0, N u] = some (.val (.bool true)) := by
      show some (R.val (.bool (decide (((u.length + 0 : Nat) : Int) = (u.length : Int))))) = _
      rw [decide_eq_true (by simp)]
    generalize P u.length 0 = i at e ⊢
    generalize N u = n at e ⊢
    simp only [zbS, zam, zaX, zby, zbd, zaA, zaI, zaZ, zbl, zaY, zaW, zaE, zbc, zaP, zaK, zaD, zav, zaT, zaJ, zal, zaC, zaS, List.getElem?_cons_succ, List.getElem?_cons_zero, Option.map_some, List.map_cons, List.map_nil, R.ds, e, zaw, D.truth]
  have eR : ∀ i n : D, ev1 (callF fns (m + 1)) (.var 3) [.val (.str u), .val (.tok 0), .val q, .val (.list out), .app 3, .val i, .val n, j7, j8, j9, j10, j11, j12, j13] = some (.list out) := fun i n => by
    simp only [zbK, zam, zaX, zby, zbd, zaA, zaI, zaZ, zbl, zaY, zaW, zaE, zbc, zaP, zaK, zaD, zav, zaT, zaJ, zal, zaC, zaS, List.getElem?_cons_succ, List.getElem?_cons_zero, za4, R.fz]
  exact ⟨_, R_seq (zaF (l := []) rfl rfl rfl) (zaf (R_seq (zbG (l := []) rfl rfl) (zaf (R_seq (zaR (d1 := P 0 0) (d2 := N u) rfl rfl) (zaf (R_seq (zbz h2) (zaf (R_seq (zkn eA) (zaf (R_seq (R_seq (R_fz (l := out) rfl rfl) (zaf (R_ret (eR _ _)))) zai))))))))))⟩
noncomputable def IsAtom2 (q : D) (t : List Nat) (a : Option D) : Prop := ∀ v r, GoodL r → r.length + 1 < lim → TurnOK2 q (t ++ v) t.length r (pushA r a)
noncomputable def AtomsOK2 (q : D) (as : List (List Nat × Option D)) : Prop := ∀ a ∈ as, IsAtom2 q a.1 a.2 ∧ ∀ d, a.2 = some d → GoodD d ∨ d = .tok 0
theorem zfo {q : D} {v : List Nat} {out : List D} : ∀ {as : List (List Nat × Option D)} {r : List D}, AtomsOK2 q as → GoodL r → r.length + as.length + 1 < lim → Tr2 q v (outA r as) out → Tr2 q (textA as ++ v) r out
  | [], r, _, _, _, t => t
  | a :: as, r, h, hr, hl, t => by
    obtain ⟨h1, h2⟩ := h a List.mem_cons_self
    have h3 := h1 (textA as ++ v) r hr (by rw [List.length_cons] at hl; omega)
    have e : textA (a :: as) ++ v = a.1 ++ (textA as ++ v) := by unfold textA; rw [List.flatMap_cons, List.append_assoc]
    rw [e]
    refine .step h3 ?_
    rw [List.drop_left' rfl]
    refine zfo (fun b hb => h b (List.mem_cons_of_mem _ hb)) (zhs hr h2) ?_ t
    have := zij (r := r) (a := a.2)
    rw [List.length_cons] at hl
    omega
theorem zdw {fns : Nat → Option Fn} (h0 : fns 0 = some fn_escape) (h1 : fns 1 = some fn_translate2) {q : D} {as : List (List Nat × Option D)} (h : AtomsOK2 q as) (hl : as.length ≤ 9999) (hu : (textA as).length ≤ 99999) (m : Nat) :
    callF fns (m + 2) 1 [.str (textA as), .tok 0, q] = some (.list (outA [] as)) := by
  refine zeH h0 h1 ?_ hu m
  have := zfo (v := []) (out := outA [] as) h (fun d hd => nomatch hd) (r := []) (by unfold lim; simp; omega) .nil
  rwa [List.append_nil] at this
theorem zki {q : D} : IsAtom2 q [63] (some q) := fun v r hr hl => ⟨Nat.le_refl _, by simp, fun cf pat I n ρ hE H S => zjo H (by omega) S⟩
theorem zgy {q : D} : IsAtom2 q [42] none := fun v r hr hl => ⟨Nat.le_refl _, by simp, fun cf pat I n ρ hE H S => by
  rcases List.eq_nil_or_concat r with rfl | ⟨r', d, rfl⟩
  · have e : pushA [] none = [.tok 0] := rfl
    rw [e]
    exact zfm H S
  · rw [List.concat_eq_append] at *
    unfold pushA
    simp only [List.getLast?_append, List.getLast?_singleton, Option.some_or, Option.map_some, Option.some.injEq]
    by_cases hd : isTok0 d = true
    · have := ziN hd
      subst this
      rw [if_pos hd]
      exact zfl H S
    · rw [if_neg hd]
      exact zfk ((hr d (by simp)).resolve_right fun e => hd (by rw [e]; rfl)) (by omega) H S⟩
theorem zji {q : D} {c : Nat} (c1 : ¬ c = 42) (c2 : ¬ c = 63) (c3 : ¬ c = 91) (hc : c < 128) : IsAtom2 q [c] (some (.str (esc c))) := fun v r hr hl => ⟨Nat.le_refl _, by simp, fun cf pat I n ρ hE H S => zf5 c1 c2 c3 (hE c hc) (by omega) H S⟩
theorem zjh {q : D} : IsAtom2 q [91, 33, 97, 93] (some (.str [91, 94, 97, 93])) := fun v r hr hl => ⟨by decide, by simp, fun cf pat I n ρ hE H S => zhX H (Nat.lt_of_succ_lt hl) S⟩
theorem zjj {q : D} : IsAtom2 q [91, 97, 45, 98, 93] (some (.str [91, 97, 45, 98, 93])) := fun v r hr hl => ⟨by decide, by simp, fun cf pat I n ρ hE H S => zhY H (Nat.lt_of_succ_lt hl) S⟩
theorem zbt {a : List Nat} {c : Nat} : opF .startswith [.str a, .str [c]] = some (.val (.bool (decide (a.head? = some c)))) := by
  show some (R.val (.bool (Txt.startswith ⟨a.toArray⟩ ⟨[c].toArray⟩))) = _
  rw [zf9]
theorem zbL {a : List Nat} {c : Nat} : opF .endswith [.str a, .str [c]] = some (.val (.bool (decide (a.getLast? = some c)))) := by
  show some (R.val (.bool (Txt.endswith ⟨a.toArray⟩ ⟨[c].toArray⟩))) = _
  rw [zi2]
theorem zgV {a b : List Nat} (h : a.length + b.length ≤ lim) : opF .add [.str a, .str b] = some (.val (.str (a ++ b))) := by
  show (if a.length + b.length ≤ lim then some (R.val (.str (a ++ b))) else none) = _
  rw [if_pos h]
theorem zd1 {n : Nat} (h : n ≤ 1000) : (n ≤ lim) = True := eq_true (Nat.le_trans h (by decide))
theorem zdW {l : List Nat} : opF .len [.str l] = some (.val (.int (l.length : Int))) := rfl
theorem zdX {a b : Int} : opF .add [.int a, .int b] = some (.val (.int (a + b))) := rfl
section
variable {fns : Nat → Option Fn}
theorem zd3 (h2 : fns 2 = some fn_fspath) (m : Nat) (l : List Nat) : callF fns (m + 1) 2 [.str l] = some (.str l) := by
  refine zct h2 (ρ := [.val (.str l), .unset, .unset, .unset]) rfl ?_
  show ∃ ρ', ex (callF fns m) s_fspath _ = _
  unfold s_fspath
  exact ⟨_, R_seq (zak (d := .ty "str") rfl rfl) (zaf (R_seq (R_ite (t := true) rfl (R_tt (R_seq (R_ret (d := .str l) rfl) zai))) zai))⟩
theorem zeA (h3 : fns 3 = some fn_get_sep) (m : Nat) (l : List Nat) : callF fns (m + 1) 3 [.str l] = some (.str [47]) := by
  refine zct h3 (ρ := [.val (.str l)]) rfl ?_
  show ∃ ρ', ex (callF fns m) s_get_sep _ = _
  unfold s_get_sep
  exact ⟨_, R_seq (R_ite (t := false) rfl (R_ff (R_seq (R_ret (d := .str [47]) rfl) zai))) zai⟩
end
noncomputable def join1 (p b : List Nat) : List Nat :=
  if b.head? = some 47 ∨ p = [] then b else if p.getLast? = some 47 then p ++ b else p ++ 47 :: b
noncomputable def joinP (p : List Nat) (bs : List (List Nat)) : List Nat := bs.foldl join1 p
noncomputable def jBody : S := match s_join with
  | .seq _ (.seq _ (.seq _ (.seq (.try_ (.seq (.forE _ _ b) _)) _))) => b
  | _ => .skip
section
variable {cf : CfT}
theorem ziI (hf : ∀ l, cf 2 [.str l] = some (.str l)) {p b : List Nat} {a' ps : D} (hl : p.length + b.length + 1 ≤ lim) :
    ex cf jBody [.val a', .val ps, .val (.str [47]), .val (.str p), .val (.str b)] = some ([.val a', .val ps, .val (.str [47]), .val (.str (join1 p b)), .val (.str b)], .next) := by
  have hb := hf b
  have l1 : p.length + b.length ≤ lim := by omega
  have l2 : p.length + ([47] ++ b).length ≤ lim := by simp; omega
  have l3 := zgV (a := [47]) (b := b) (by simp; omega)
  unfold jBody s_join join1
  by_cases h1 : b.head? = some 47
  · simp only [h1, true_or, if_true]
    (repeat' (first | with_reducible (first | exact zan | apply R_seq | exact za9 | exact zaU | exact zai | refine zaf ?_ | apply R_ite | refine R_tt ?_ | refine R_ff ?_ | apply zbz | apply zaL | exact zbB | apply R_wGo | refine zbA ?_ | exact zb5 | exact zb4 | apply R_for | exact zbr | apply zaM | refine zbp ?_ | refine zbF ?_ | exact zb6 | exact zbZ | apply zak | apply zaR | apply zaG | apply za0 | apply zbG | apply R_ret | apply zaF | apply R_fz | apply R_aug) | (((try simp (config := {failIfUnchanged := false}) only [zbK, zbS, zbY, za4, zat, zaw, zam, zaX, zby, zbd, zaA, zaI, zaZ, zbl, zaY, zaW, zaE, zbc, zaP, zaK, zaD, zav, zaT, zaJ, zal, zaC, zaS, fzAll, ownAt, dS3, dS10, Mine.R.ds, Mine.R.fz, Mine.D.truth, List.map_cons, List.map_nil, List.getElem?_cons_zero, List.getElem?_cons_succ, List.getElem?_nil, Option.map_some, Option.map_none, List.set_cons_zero, List.set_cons_succ, List.getElem?_set, List.length_set, Nat.reduceLT, eq_str, ne_str, za7, zbq, List.cons.injEq, and_true, and_false, true_and, false_and, Nat.reduceEqDiff, decide_true, decide_false, reduceCtorEq, Bool.not_true, Bool.not_false, Nat.reduceAdd, List.isEmpty_cons, List.isEmpty_nil, Nat.reduceLeDiff, Nat.zero_le, Option.isSome_some, Option.isSome_none, zbj, List.all_cons, List.all_nil, zay, zaz, zaB, za8, Bool.and_true, Bool.true_and, reduceIte, List.mem_cons, List.not_mem_nil, or_false, false_or, or_true, true_or, itemsOf, Option.bind_some, compGo, zbg, o_len, zdW, o_sub, o_neg, zdX, zbt, zbL, zd1, List.length_cons, List.length_nil, Nat.zero_add, *]) <;> rfl)) | (show (_ : Nat) < lim; decide) | decide))
  · by_cases h2 : p = []
    · subst h2
      simp only [h1, or_true, if_true]
      (repeat' (first | with_reducible (first | exact zan | apply R_seq | exact za9 | exact zaU | exact zai | refine zaf ?_ | apply R_ite | refine R_tt ?_ | refine R_ff ?_ | apply zbz | apply zaL | exact zbB | apply R_wGo | refine zbA ?_ | exact zb5 | exact zb4 | apply R_for | exact zbr | apply zaM | refine zbp ?_ | refine zbF ?_ | exact zb6 | exact zbZ | apply zak | apply zaR | apply zaG | apply za0 | apply zbG | apply R_ret | apply zaF | apply R_fz | apply R_aug) | (((try simp (config := {failIfUnchanged := false}) only [zbK, zbS, zbY, za4, zat, zaw, zam, zaX, zby, zbd, zaA, zaI, zaZ, zbl, zaY, zaW, zaE, zbc, zaP, zaK, zaD, zav, zaT, zaJ, zal, zaC, zaS, fzAll, ownAt, dS3, dS10, Mine.R.ds, Mine.R.fz, Mine.D.truth, List.map_cons, List.map_nil, List.getElem?_cons_zero, List.getElem?_cons_succ, List.getElem?_nil, Option.map_some, Option.map_none, List.set_cons_zero, List.set_cons_succ, List.getElem?_set, List.length_set, Nat.reduceLT, eq_str, ne_str, za7, zbq, List.cons.injEq, and_true, and_false, true_and, false_and, Nat.reduceEqDiff, decide_true, decide_false, reduceCtorEq, Bool.not_true, Bool.not_false, Nat.reduceAdd, List.isEmpty_cons, List.isEmpty_nil, Nat.reduceLeDiff, Nat.zero_le, Option.isSome_some, Option.isSome_none, zbj, List.all_cons, List.all_nil, zay, zaz, zaB, za8, Bool.and_true, Bool.true_and, reduceIte, List.mem_cons, List.not_mem_nil, or_false, false_or, or_true, true_or, itemsOf, Option.bind_some, compGo, zbg, o_len, zdW, o_sub, o_neg, zdX, zbt, zbL, zd1, List.length_cons, List.length_nil, Nat.zero_add, *]) <;> rfl)) | (show (_ : Nat) < lim; decide) | decide))
    · have h2' : p.isEmpty = false := by cases p <;> first | rfl | exact absurd rfl h2
      by_cases h3 : p.getLast? = some 47
      · simp only [h1, h2, or_self, if_false, h3, if_true]
        (repeat' (first | with_reducible (first | exact zan | apply R_seq | exact za9 | exact zaU | exact zai | refine zaf ?_ | apply R_ite | refine R_tt ?_ | refine R_ff ?_ | apply zbz | apply zaL | exact zbB | apply R_wGo | refine zbA ?_ | exact zb5 | exact zb4 | apply R_for | exact zbr | apply zaM | refine zbp ?_ | refine zbF ?_ | exact zb6 | exact zbZ | apply zak | apply zaR | apply zaG | apply za0 | apply zbG | apply R_ret | apply zaF | apply R_fz | apply R_aug) | (((try simp (config := {failIfUnchanged := false}) only [zbK, zbS, zbY, za4, zat, zaw, zam, zaX, zby, zbd, zaA, zaI, zaZ, zbl, zaY, zaW, zaE, zbc, zaP, zaK, zaD, zav, zaT, zaJ, zal, zaC, zaS, fzAll, ownAt, dS3, dS10, Mine.R.ds, Mine.R.fz, Mine.D.truth, List.map_cons, List.map_nil, List.getElem?_cons_zero, List.getElem?_cons_succ, List.getElem?_nil, Option.map_some, Option.map_none, List.set_cons_zero, List.set_cons_succ, List.getElem?_set, List.length_set, Nat.reduceLT, eq_str, ne_str, za7, zbq, List.cons.injEq, and_true, and_false, true_and, false_and, Nat.reduceEqDiff, decide_true, decide_false, reduceCtorEq, Bool.not_true, Bool.not_false, Nat.reduceAdd, List.isEmpty_cons, List.isEmpty_nil, Nat.reduceLeDiff, Nat.zero_le, Option.isSome_some, Option.isSome_none, zbj, List.all_cons, List.all_nil, zay, zaz, zaB, za8, Bool.and_true, Bool.true_and, reduceIte, List.mem_cons, List.not_mem_nil, or_false, false_or, or_true, true_or, itemsOf, Option.bind_some, compGo, zbg, o_len, zdW, o_sub, o_neg, zdX, zbt, zbL, zd1, List.length_cons, List.length_nil, Nat.zero_add, *]) <;> rfl)) | (show (_ : Nat) < lim; decide) | decide))
      · simp only [h1, h2, or_self, if_false, h3]
        (repeat' (first | with_reducible (first | exact zan | apply R_seq | exact za9 | exact zaU | exact zai | refine zaf ?_ | apply R_ite | refine R_tt ?_ | refine R_ff ?_ | apply zbz | apply zaL | exact zbB | apply R_wGo | refine zbA ?_ | exact zb5 | exact zb4 | apply R_for | exact zbr | apply zaM | refine zbp ?_ | refine zbF ?_ | exact zb6 | exact zbZ | apply zak | apply zaR | apply zaG | apply za0 | apply zbG | apply R_ret | apply zaF | apply R_fz | apply R_aug) | (((try simp (config := {failIfUnchanged := false}) only [zbK, zbS, zbY, za4, zat, zaw, zam, zaX, zby, zbd, zaA, zaI, zaZ, zbl, zaY, zaW, zaE, zbc, zaP, zaK, zaD, zav, zaT, zaJ, zal, zaC, zaS, fzAll, ownAt, dS3, dS10, Mine.R.ds, Mine.R.fz, Mine.D.truth, List.map_cons, List.map_nil, List.getElem?_cons_zero, List.getElem?_cons_succ, List.getElem?_nil, Option.map_some, Option.map_none, List.set_cons_zero, List.set_cons_succ, List.getElem?_set, List.length_set, Nat.reduceLT, eq_str, ne_str, za7, zbq, List.cons.injEq, and_true, and_false, true_and, false_and, Nat.reduceEqDiff, decide_true, decide_false, reduceCtorEq, Bool.not_true, Bool.not_false, Nat.reduceAdd, List.isEmpty_cons, List.isEmpty_nil, Nat.reduceLeDiff, Nat.zero_le, Option.isSome_some, Option.isSome_none, zbj, List.all_cons, List.all_nil, zay, zaz, zaB, za8, Bool.and_true, Bool.true_and, reduceIte, List.mem_cons, List.not_mem_nil, or_false, false_or, or_true, true_or, itemsOf, Option.bind_some, compGo, zbg, o_len, zdW, o_sub, o_neg, zdX, zbt, zbL, zd1, List.length_cons, List.length_nil, Nat.zero_add, *]) <;> rfl)) | (show (_ : Nat) < lim; decide) | decide))
theorem ziL (p b : List Nat) : (join1 p b).length ≤ p.length + b.length + 1 := by
  unfold join1
  split
  · omega
  · split <;> simp <;> omega
noncomputable def lenS (bs : List (List Nat)) : Nat := (bs.map fun b => b.length + 1).sum
theorem zfK (hf : ∀ l, cf 2 [.str l] = some (.str l)) {a' ps : D} : ∀ (bs : List (List Nat)) (p : List Nat) (j4 : Slot), p.length + lenS bs ≤ lim →
    ∃ j, forGo (put1 4) (ex cf jBody) (bs.map .str) [.val a', .val ps, .val (.str [47]), .val (.str p), j4] = some ([.val a', .val ps, .val (.str [47]), .val (.str (joinP p bs)), j], .next)
  | [], p, j4, _ => ⟨j4, rfl⟩
  | b :: bs, p, j4, h => by
    have h' : p.length + (b.length + 1 + lenS bs) ≤ lim := by
      unfold lenS at h ⊢
      rw [List.map_cons, List.sum_cons] at h
      exact h
    have h2 := ziL p b
    obtain ⟨j, hj⟩ := zfK hf (a' := a') (ps := ps) bs (join1 p b) (.val (.str b)) (by omega)
    refine ⟨j, zaM (st := put1 4) (d := .str b) rfl (ziI hf (p := p) (b := b) (by omega)) (zbp hj)⟩
end
section
variable {fns : Nat → Option Fn}
theorem join_ok (h2 : fns 2 = some fn_fspath) (h3 : fns 3 = some fn_get_sep) (h4 : fns 4 = some fn_join) (m : Nat) {a : List Nat} {bs : List (List Nat)} (h : a.length + lenS bs ≤ lim) (hn : bs.length < lim) :
    callF fns (m + 2) 4 (.str a :: bs.map .str) = some (.str (joinP a bs)) := by
  have hb : bindD fn_join (.str a :: bs.map .str) = some [.val (.str a), .val (.tup (bs.map .str)), .unset, .unset, .unset] := by
    unfold bindD fn_join
    simp only [if_true]
    rw [if_pos ⟨by simp, by simp; omega⟩]
    rfl
  refine zct h4 hb ?_
  show ∃ ρ', ex (callF fns (m + 1)) s_join _ = _
  obtain ⟨j, hj⟩ := zfK (cf := callF fns (m + 1)) (zd3 h2 m) (a' := .str a) (ps := .tup (bs.map .str)) bs a .unset h
  have f1 := zd3 h2 m a
  have f2 := zeA h3 m a
  unfold s_join
  refine ⟨_, R_seq (zak (d := .str a) ?_ rfl) (zaf (R_seq (zak (d := .str [47]) ?_ rfl) (zaf (R_seq (zak (d := .str a) rfl rfl) (zaf (R_seq (R_try (R_seq (R_for ?_ hj) (zaf zan))) (zaf (R_seq (R_ret (d := .str (joinP a bs)) rfl) zai))))))))⟩
  · simp only [zbK, zam, zaX, zby, zbd, zaA, zaI, zaZ, zbl, zaY, zaW, zaE, zbc, zaP, zaK, zaD, zav, zaT, zaJ, zal, zaC, zaS, List.getElem?_cons_zero, fzAll, R.fz, f1, Option.map_some, za4]
  · simp only [zbK, zam, zaX, zby, zbd, zaA, zaI, zaZ, zbl, zaY, zaW, zaE, zbc, zaP, zaK, zaD, zav, zaT, zaJ, zal, zaC, zaS, List.getElem?_cons_zero, List.set_cons_zero, fzAll, R.fz, f2, Option.map_some, za4]
  · rfl
theorem zeq (h2 : fns 2 = some fn_fspath) (h3 : fns 3 = some fn_get_sep) (h5 : fns 5 = some fn_split) (m : Nat) {l x y z : List Nat} {r i n : D} {e : D} (hr : opF .rfind [.str l, .str [47]] = some (.val r)) (ha : opF .add [r, .int 1] = some (.val i))
    (s1 : opF .slice [.str l, .none, i] = some (.val (.str x))) (s2 : opF .slice [.str l, i, .none] = some (.val (.str y))) (hn : opF .len [.str x] = some (.val n)) (hm : opF .mul [.str [47], n] = some (.val e)) {b : Bool} (he : opF .ne [.str x, e] = some (.val (.bool b)))
    (hs : opF .rstrip [.str x, .str [47]] = some (.val (.str z))) : callF fns (m + 2) 5 [.str l] = some (.tup [.str (if x ≠ [] ∧ b = true then z else x), .str y]) := by
  refine zct h5 (ρ := [.val (.str l), .unset, .unset, .unset, .unset]) rfl ?_
  show ∃ ρ', ex (callF fns (m + 1)) s_split _ = _
  have f1 := zd3 h2 m l
  have f2 := zeA h3 m l
  unfold s_split
  by_cases hx : x = []
  · subst hx
    simp only [ne_eq, not_true, false_and, if_false]
    refine ⟨?w1, ?h1⟩
    case h1 => (repeat' (first | with_reducible (first | exact zan | apply R_seq | exact za9 | exact zaU | exact zai | refine zaf ?_ | apply R_ite | refine R_tt ?_ | refine R_ff ?_ | apply zbz | apply zaL | exact zbB | apply R_wGo | refine zbA ?_ | exact zb5 | exact zb4 | apply R_for | exact zbr | apply zaM | refine zbp ?_ | refine zbF ?_ | exact zb6 | exact zbZ | apply zak | apply zaR | apply zaG | apply za0 | apply zbG | apply R_ret | apply zaF | apply R_fz | apply R_aug) | (((try simp (config := {failIfUnchanged := false}) only [zbK, zbS, zbY, za4, zat, zaw, zam, zaX, zby, zbd, zaA, zaI, zaZ, zbl, zaY, zaW, zaE, zbc, zaP, zaK, zaD, zav, zaT, zaJ, zal, zaC, zaS, fzAll, ownAt, dS3, dS10, Mine.R.ds, Mine.R.fz, Mine.D.truth, List.map_cons, List.map_nil, List.getElem?_cons_zero, List.getElem?_cons_succ, List.getElem?_nil, Option.map_some, Option.map_none, List.set_cons_zero, List.set_cons_succ, List.getElem?_set, List.length_set, Nat.reduceLT, eq_str, ne_str, za7, zbq, List.cons.injEq, and_true, and_false, true_and, false_and, Nat.reduceEqDiff, decide_true, decide_false, reduceCtorEq, Bool.not_true, Bool.not_false, Nat.reduceAdd, List.isEmpty_cons, List.isEmpty_nil, Nat.reduceLeDiff, Nat.zero_le, Option.isSome_some, Option.isSome_none, zbj, List.all_cons, List.all_nil, zay, zaz, zaB, za8, Bool.and_true, Bool.true_and, reduceIte, List.mem_cons, List.not_mem_nil, or_false, false_or, or_true, true_or, itemsOf, Option.bind_some, compGo, zbg, o_len, zdW, o_sub, o_neg, zdX, zbt, zbL, zd1, List.length_cons, List.length_nil, Nat.zero_add, *]) <;> rfl)) | (show (_ : Nat) < lim; decide) | decide))
  · have hx' : x.isEmpty = false := by cases x <;> first | rfl | exact absurd rfl hx
    cases b with
    | true =>
      simp only [ne_eq, hx, not_false_eq_true, and_self, if_true]
      refine ⟨?w2, ?h2⟩
      case h2 => (repeat' (first | with_reducible (first | exact zan | apply R_seq | exact za9 | exact zaU | exact zai | refine zaf ?_ | apply R_ite | refine R_tt ?_ | refine R_ff ?_ | apply zbz | apply zaL | exact zbB | apply R_wGo | refine zbA ?_ | exact zb5 | exact zb4 | apply R_for | exact zbr | apply zaM | refine zbp ?_ | refine zbF ?_ | exact zb6 | exact zbZ | apply zak | apply zaR | apply zaG | apply za0 | apply zbG | apply R_ret | apply zaF | apply R_fz | apply R_aug) | (((try simp (config := {failIfUnchanged := false}) only [zbK, zbS, zbY, za4, zat, zaw, zam, zaX, zby, zbd, zaA, zaI, zaZ, zbl, zaY, zaW, zaE, zbc, zaP, zaK, zaD, zav, zaT, zaJ, zal, zaC, zaS, fzAll, ownAt, dS3, dS10, Mine.R.ds, Mine.R.fz, Mine.D.truth, List.map_cons, List.map_nil, List.getElem?_cons_zero, List.getElem?_cons_succ, List.getElem?_nil, Option.map_some, Option.map_none, List.set_cons_zero, List.set_cons_succ, List.getElem?_set, List.length_set, Nat.reduceLT, eq_str, ne_str, za7, zbq, List.cons.injEq, and_true, and_false, true_and, false_and, Nat.reduceEqDiff, decide_true, decide_false, reduceCtorEq, Bool.not_true, Bool.not_false, Nat.reduceAdd, List.isEmpty_cons, List.isEmpty_nil, Nat.reduceLeDiff, Nat.zero_le, Option.isSome_some, Option.isSome_none, zbj, List.all_cons, List.all_nil, zay, zaz, zaB, za8, Bool.and_true, Bool.true_and, reduceIte, List.mem_cons, List.not_mem_nil, or_false, false_or, or_true, true_or, itemsOf, Option.bind_some, compGo, zbg, o_len, zdW, o_sub, o_neg, zdX, zbt, zbL, zd1, List.length_cons, List.length_nil, Nat.zero_add, *]) <;> rfl)) | (show (_ : Nat) < lim; decide) | decide))
    | false =>
      simp only [ne_eq, hx, not_false_eq_true, and_false, if_false, Bool.false_eq_true]
      refine ⟨?w3, ?h3⟩
      case h3 => (repeat' (first | with_reducible (first | exact zan | apply R_seq | exact za9 | exact zaU | exact zai | refine zaf ?_ | apply R_ite | refine R_tt ?_ | refine R_ff ?_ | apply zbz | apply zaL | exact zbB | apply R_wGo | refine zbA ?_ | exact zb5 | exact zb4 | apply R_for | exact zbr | apply zaM | refine zbp ?_ | refine zbF ?_ | exact zb6 | exact zbZ | apply zak | apply zaR | apply zaG | apply za0 | apply zbG | apply R_ret | apply zaF | apply R_fz | apply R_aug) | (((try simp (config := {failIfUnchanged := false}) only [zbK, zbS, zbY, za4, zat, zaw, zam, zaX, zby, zbd, zaA, zaI, zaZ, zbl, zaY, zaW, zaE, zbc, zaP, zaK, zaD, zav, zaT, zaJ, zal, zaC, zaS, fzAll, ownAt, dS3, dS10, Mine.R.ds, Mine.R.fz, Mine.D.truth, List.map_cons, List.map_nil, List.getElem?_cons_zero, List.getElem?_cons_succ, List.getElem?_nil, Option.map_some, Option.map_none, List.set_cons_zero, List.set_cons_succ, List.getElem?_set, List.length_set, Nat.reduceLT, eq_str, ne_str, za7, zbq, List.cons.injEq, and_true, and_false, true_and, false_and, Nat.reduceEqDiff, decide_true, decide_false, reduceCtorEq, Bool.not_true, Bool.not_false, Nat.reduceAdd, List.isEmpty_cons, List.isEmpty_nil, Nat.reduceLeDiff, Nat.zero_le, Option.isSome_some, Option.isSome_none, zbj, List.all_cons, List.all_nil, zay, zaz, zaB, za8, Bool.and_true, Bool.true_and, reduceIte, List.mem_cons, List.not_mem_nil, or_false, false_or, or_true, true_or, itemsOf, Option.bind_some, compGo, zbg, o_len, zdW, o_sub, o_neg, zdX, zbt, zbL, zd1, List.length_cons, List.length_nil, Nat.zero_add, *]) <;> rfl)) | (show (_ : Nat) < lim; decide) | decide))
end
theorem zbk {n : Nat} (h : n ≤ 1000000) : small (n : Int) = true := by
  unfold small
  simp only [Bool.and_eq_true, decide_eq_true_eq]
  omega
theorem zfa {k n : Nat} (h : k ≤ n) : clip (k : Int) n = k := by
  unfold clip
  rw [if_neg (by omega)]
  split <;> omega
theorem o_to {x y : List Nat} (h : x.length ≤ 1000000) : opF .slice [.str (x ++ y), .none, .int (x.length : Int)] = some (.val (.str x)) := by
  have e : bound (.int (x.length : Int)) (x ++ y).length (x ++ y).length = some x.length := by
    show (if small (x.length : Int) = true then some (clip (x.length : Int) (x ++ y).length) else none) = _
    rw [if_pos (zbk h), zfa (by simp)]
  show (match bound .none 0 (x ++ y).length, bound (.int (x.length : Int)) (x ++ y).length (x ++ y).length with
    | some lo, some hi => some (R.val (.str (cut (x ++ y) lo hi)))
    | _, _ => none) = _
  rw [e]
  show some (R.val (.str (cut (x ++ y) 0 x.length))) = _
  congr 3
  unfold cut
  simp
theorem zkx {x y : List Nat} (h : x.length ≤ 1000000) : opF .slice [.str (x ++ y), .int (x.length : Int), .none] = some (.val (.str y)) := by
  have e : bound (.int (x.length : Int)) 0 (x ++ y).length = some x.length := by
    show (if small (x.length : Int) = true then some (clip (x.length : Int) (x ++ y).length) else none) = _
    rw [if_pos (zbk h), zfa (by simp)]
  show (match bound (.int (x.length : Int)) 0 (x ++ y).length, bound .none (x ++ y).length (x ++ y).length with
    | some lo, some hi => some (R.val (.str (cut (x ++ y) lo hi)))
    | _, _ => none) = _
  rw [e]
  show some (R.val (.str (cut (x ++ y) x.length (x ++ y).length))) = _
  congr 3
  unfold cut
  simp
theorem zjA {n : Nat} {c : Nat} : rep [c] (n : Int) = List.replicate n c := by
  unfold rep
  rw [Int.toNat_natCast]
  induction n with
  | zero => rfl
  | succ n ih => rw [List.replicate_succ, List.flatten_cons, ih]; rfl
theorem zjN {c n : Nat} (h : n ≤ lim) : opF .mul [.str [c], .int (n : Int)] = some (.val (.str (List.replicate n c))) := by
  show (if (small (n : Int) && decide (([c] : List Nat).length * (n : Int).toNat ≤ lim)) = true then some (R.val (.str (rep [c] (n : Int)))) else none) = _
  rw [if_pos, zjA]
  rw [Bool.and_eq_true, decide_eq_true_eq, Int.toNat_natCast]
  exact ⟨zbk h, by simpa using h⟩
theorem zjM {a : List Nat} {c : Nat} : opF .rstrip [.str a, .str [c]] = some (.val (.str (a.reverse.dropWhile fun x => x == c).reverse)) := by
  show some (R.val (.str (Txt.rstripChars ⟨a.toArray⟩ ⟨[c].toArray⟩).cps.toList)) = _
  rw [rstrip1]
theorem zhv {a : List Nat} {c : Nat} (h : c ∉ a) : opF .rfind [.str a, .str [c]] = some (.val (.int (-1))) := by
  show some (R.val (.int (Txt.rfind ⟨a.toArray⟩ ⟨[c].toArray⟩))) = _
  rw [zjy h]
theorem zhw {x y : List Nat} {c : Nat} (h : c ∉ y) : opF .rfind [.str (x ++ c :: y), .str [c]] = some (.val (.int (x.length : Int))) := by
  show some (R.val (.int (Txt.rfind ⟨(x ++ c :: y).toArray⟩ ⟨[c].toArray⟩))) = _
  rw [zjz h]
noncomputable def strip0 (x : List Nat) : List Nat := if x = List.replicate x.length 47 then x else (x.reverse.dropWhile fun c => c == 47).reverse
section
variable {fns : Nat → Option Fn}
theorem zjv (h2 : fns 2 = some fn_fspath) (h3 : fns 3 = some fn_get_sep) (h5 : fns 5 = some fn_split) (m : Nat) {l : List Nat} (h : 47 ∉ l) : callF fns (m + 2) 5 [.str l] = some (.tup [.str [], .str l]) := by
  have := zeq h2 h3 h5 m (l := l) (x := []) (y := l) (z := []) (r := .int (-1)) (i := .int 0) (n := .int 0) (e := .str []) (b := false) (zhv h) rfl (o_to (x := []) (y := l) (by simp)) (zkx (x := []) (y := l) (by simp)) rfl rfl rfl rfl
  simpa using this
theorem zgI (h2 : fns 2 = some fn_fspath) (h3 : fns 3 = some fn_get_sep) (h5 : fns 5 = some fn_split) (m : Nat) {x y : List Nat} (h : 47 ∉ y) (hl : x.length < 1000000) :
    callF fns (m + 2) 5 [.str (x ++ 47 :: y)] = some (.tup [.str (strip0 (x ++ [47])), .str y]) := by
  have e : x ++ 47 :: y = (x ++ [47]) ++ y := by simp
  have hlen : ((x ++ [47]).length : Int) = (x.length : Int) + 1 := by simp
  have := zeq h2 h3 h5 m (l := x ++ 47 :: y) (x := x ++ [47]) (y := y) (z := ((x ++ [47]).reverse.dropWhile fun c => c == 47).reverse) (r := .int (x.length : Int)) (i := .int ((x ++ [47]).length : Int)) (n := .int ((x ++ [47]).length : Int))
    (e := .str (List.replicate (x ++ [47]).length 47)) (b := !decide (x ++ [47] = List.replicate (x ++ [47]).length 47)) (zhw h) (by rw [hlen]; rfl) (by rw [e]; exact o_to (by simp; omega)) (by rw [e]; exact zkx (by simp; omega)) rfl (zjN (by unfold lim; simp; omega)) rfl zjM
  rw [this]
  unfold strip0
  by_cases hx : x ++ [47] = List.replicate (x ++ [47]).length 47
  · rw [if_pos hx, if_neg (by rintro ⟨_, q⟩; rw [Bool.not_eq_true', decide_eq_false_iff_not] at q; exact q hx)]
  · rw [if_neg hx, if_pos ⟨by simp, by rw [Bool.not_eq_true', decide_eq_false_iff_not]; exact hx⟩]
end
theorem o_mod {n k : Nat} (hk : k ≠ 0) : opF .mod [.int (n : Int), .int (k : Int)] = some (.val (.int ((n % k : Nat) : Int))) := by
  show (if (k : Int) = 0 then none else some (R.val (.int (Int.fmod (n : Int) (k : Int))))) = _
  rw [if_neg (by omega), Int.fmod_eq_emod_of_nonneg _ (by omega)]
  rfl
theorem o_div {n k : Nat} (hk : k ≠ 0) : opF .fdiv [.int (n : Int), .int (k : Int)] = some (.val (.int ((n / k : Nat) : Int))) := by
  show (if (k : Int) = 0 then none else some (R.val (.int (Int.fdiv (n : Int) (k : Int))))) = _
  rw [if_neg (by omega), Int.fdiv_eq_ediv_of_nonneg _ (by omega)]
  rfl
theorem o_gt0 {n : Nat} : opF .gt [.int (n : Int), .int 0] = some (.val (.bool (decide (0 < n)))) := by
  show some (R.val (.bool (decide ((0 : Int) < (n : Int))))) = _
  congr 4
  simp only [eq_iff_iff]
  omega
theorem zeX {l : List D} {k : Nat} {d : D} (h : l[k]? = some d) (hk : k ≤ 1000000) : opF .index [.tup l, .int (k : Int)] = some (.val d) := by
  show (if small (k : Int) = true then (match place (k : Int) l.length with | some k => (l[k]?).map R.val | none => none) else none) = _
  rw [if_pos (zbk hk)]
  unfold place
  have : k < l.length := (List.getElem?_eq_some_iff.mp h).1
  rw [if_pos (by omega), if_pos (by omega)]
  simp only [Int.toNat_natCast, h, Option.map_some]
theorem zbE {l : List D} {k : Nat} {d : D} (h : l[k]? = some d) (hk : k ≤ 1000000) : opF .index [.list l, .int (k : Int)] = some (.val d) := by
  show (if small (k : Int) = true then (match place (k : Int) l.length with | some k => (l[k]?).map R.val | none => none) else none) = _
  rw [if_pos (zbk hk)]
  unfold place
  have : k < l.length := (List.getElem?_eq_some_iff.mp h).1
  rw [if_pos (by omega), if_pos (by omega)]
  simp only [Int.toNat_natCast, h, Option.map_some]
theorem zcs {cf : CfT} {i : Nat} {b : S} {I : Nat → List Slot → Prop} {a : Nat} : ∀ {m : Nat} {ρ : List Slot}, I a ρ → (∀ k ρ, a ≤ k → k < a + m → I k ρ → ∃ ρ' o, ex cf b (ρ.set i (.val (.int (k : Int)))) = some (ρ', o) ∧ (o = .next ∨ o = .cont) ∧ I (k + 1) ρ') →
    ∃ ρ', forGo (put1 i) (ex cf b) ((List.range' a m).map fun (k : Nat) => .int (k : Int)) ρ = some (ρ', .next) ∧ I (a + m) ρ' := by
  intro m
  induction m generalizing a with
  | zero => intro ρ h0 _; exact ⟨ρ, rfl, h0⟩
  | succ m ih =>
    intro ρ h0 hs
    obtain ⟨ρ1, o, e1, ho, h1⟩ := hs a ρ (Nat.le_refl _) (by omega) h0
    obtain ⟨ρ2, e2, h2⟩ := ih (a := a + 1) h1 fun k ρ hk1 hk2 hI => hs k ρ (by omega) (by omega) hI
    refine ⟨ρ2, ?_, by rw [show a + (m + 1) = a + 1 + m by omega]; exact h2⟩
    rw [List.range'_succ, List.map_cons]
    refine zaM (st := put1 i) rfl e1 ?_
    rcases ho with rfl | rfl
    · exact zbp e2
    · exact zbF e2
theorem zhW {n a : Nat} : (upTo n (a : Int) 1).map D.int = (List.range' a n).map fun (k : Nat) => .int (k : Int) := by
  unfold upTo
  rw [List.map_map, List.range'_eq_map_range, List.map_map]
  apply List.map_congr_left
  intro k _
  simp
theorem zih {n : Nat} (h : n ≤ 1000000) : opRange [.int (n : Int)] = some ((List.range' 0 n).map fun (k : Nat) => .int (k : Int)) := by
  show (if (small (n : Int) && decide ((n : Int) ≤ 1000000)) = true then some (rangeL 0 (n : Int)) else none) = _
  rw [if_pos (by rw [zbk h]; exact decide_eq_true (Int.ofNat_le.mpr h))]
  unfold rangeL
  have : ((n : Int) - 0).toNat = n := by rw [Int.sub_zero]; rfl
  rw [this]
  exact congrArg some (zhW (a := 0))
theorem zig {a n : Nat} (ha : a ≤ 1000000) (h : n ≤ 1000000) : opRange [.int (a : Int), .int (n : Int)] = some ((List.range' a (n - a)).map fun (k : Nat) => .int (k : Int)) := by
  show (if (small (a : Int) && small (n : Int) && decide ((n : Int) - (a : Int) ≤ 1000000)) = true then some (rangeL (a : Int) (n : Int)) else none) = _
  rw [if_pos (by rw [zbk h, zbk ha]; exact decide_eq_true (Int.le_trans (Int.sub_le_self _ (Int.natCast_nonneg a)) (Int.ofNat_le.mpr h)))]
  unfold rangeL
  have : ((n : Int) - (a : Int)).toNat = n - a := Int.toNat_sub n a
  rw [this]
  exact congrArg some zhW
theorem o_addl {a b : List D} (h : a.length + b.length ≤ lim) : opF .add [.list a, .list b] = some (.own (a ++ b)) := by
  show (if a.length + b.length ≤ lim then some (R.own (a ++ b)) else none) = _
  rw [if_pos h]
mutual
theorem zi1 : ∀ d : D, PyData.eqv d.toPy d.toPy = true
  | .none => by unfold D.toPy; rfl
  | .bool b => by unfold D.toPy; simp [PyData.eqv]
  | .int i => by unfold D.toPy; simp [PyData.eqv]
  | .str l => by unfold D.toPy; simp [PyData.eqv]
  | .list l => by unfold D.toPy; rw [PyData.eqv]; exact zdh l
  | .tup l => by unfold D.toPy; rw [PyData.eqv]; exact zdh l
  | .tok k => by unfold D.toPy; simp [PyData.eqv, PyData.eqvAll]
  | .ty _ => by unfold D.toPy; rfl
theorem zdh : ∀ l : List D, PyData.eqvAll (D.toPys l) (D.toPys l) = true
  | [] => by unfold D.toPys; rfl
  | d :: l => by unfold D.toPys; rw [PyData.eqvAll, zi1 d, zdh l]; rfl
end
theorem zeB : ∀ (l : List D), fzAll (l.map R.val) = some l
  | [] => rfl
  | d :: l => by
    rw [List.map_cons]
    unfold fzAll
    rw [zeB l]; rfl
theorem zkg {cf : CfT} {i : Nat} {it c e : X} {ρ : List Slot} {items l : List D} (h : ev cf it ρ = some [.val (.list items)]) (hg : compGo (fun d => turnD (ev cf c (ρ.set i (.val d))) (ev cf e (ρ.set i (.val d)))) items = some l) :
    ev cf (.comp i it c e) ρ = some [.own l] := by
  rw [zaK]
  simp only [h, hg, Option.map_some]
theorem zjD {α β : Type} (f : α → β) (l : List α) (lo hi st : Option Int) : pick (l.map f) lo hi st = (pick l lo hi st).map f := by
  unfold pick
  rw [List.length_map, List.map_filterMap]
  congr 1
  funext k
  rw [List.getElem?_map]
theorem zeo : ∀ l : List Int, toInts (l.map D.int) = some l
  | [] => rfl
  | i :: l => by
    rw [List.map_cons]
    unfold toInts
    rw [zeo l]; rfl
theorem o_sumi {l : List Int} : opF .sum [.list (l.map .int)] = some (.val (.int l.sum)) := by
  show (toInts (l.map D.int)).map (fun is => R.val (.int is.sum)) = _
  rw [zeo]; rfl
theorem o_absi {i : Int} : opF .abs [.int i] = some (.val (.int (i.natAbs : Int))) := rfl
theorem zjL {ns : List Int} {k n : Nat} (hk : k ≤ 1000000) (hn : n ≤ 1000000) (h0 : n ≠ 0) : opF .slice3 [.list (ns.map .int), .int (k : Int), .none, .int (n : Int)] = some (.own ((pick ns (some (k : Int)) none (some (n : Int))).map .int)) := by
  have e : partD (.int (k : Int)) = some (some (k : Int)) := by
    show (if small (k : Int) = true then some (some (k : Int)) else none) = _
    rw [if_pos (zbk hk)]
  show (match partD (.int (k : Int)), partD .none with
    | some lo, some hi => if (n : Int) ≠ 0 ∧ small (n : Int) then some (R.own (pick (ns.map D.int) lo hi (some (n : Int)))) else none
    | _, _ => none) = _
  rw [e]
  show (if (n : Int) ≠ 0 ∧ small (n : Int) then some (R.own (pick (ns.map D.int) (some (k : Int)) none (some (n : Int)))) else none) = _
  rw [if_pos ⟨by omega, zbk hn⟩, zjD]
section
variable {cf : CfT} {ρ : List Slot} {a b c : R}
theorem zao {x xs : X} {rs : List R} (h1 : ev cf x ρ = some [a]) (h2 : ev cf xs ρ = some rs) : ev cf (.cons x xs) ρ = some (a :: rs) := by rw [zaA, h1, h2]; rfl
theorem V_op {f : Op} {xs : X} {rs : List R} {r : R} (h1 : ev cf xs ρ = some rs) (h : opF f (rs.map R.ds) = some r) : ev cf (.op f xs) ρ = some [r] := by rw [zby, h1]; simp only [h]; rfl
theorem V_op1 {f : Op} {x : X} {r : R} (h1 : ev cf x ρ = some [a]) (h : opF f [a.ds] = some r) : ev cf (.op f (.cons x .nil)) ρ = some [r] := V_op (zao h1 rfl) h
theorem V_op2 {f : Op} {x y : X} {r : R} (h1 : ev cf x ρ = some [a]) (h2 : ev cf y ρ = some [b]) (h : opF f [a.ds, b.ds] = some r) : ev cf (.op f (.cons x (.cons y .nil))) ρ = some [r] := V_op (zao h1 (zao h2 rfl)) h
theorem V_op3 {f : Op} {x y z : X} {r : R} (h1 : ev cf x ρ = some [a]) (h2 : ev cf y ρ = some [b]) (h3 : ev cf z ρ = some [c]) (h : opF f [a.ds, b.ds, c.ds] = some r) : ev cf (.op f (.cons x (.cons y (.cons z .nil)))) ρ = some [r] := V_op (zao h1 (zao h2 (zao h3 rfl))) h
theorem zb3 {f : Nat} {xs : X} {rs : List R} {ds : List D} {d : D} (h1 : ev cf xs ρ = some rs) (h2 : fzAll rs = some ds) (h : cf f ds = some d) : ev cf (.call f xs) ρ = some [.val d] := by rw [zaE, h1]; simp only [h2, h]; rfl
theorem zkm {x y : X} (h1 : ev cf x ρ = some [.val (.bool false)]) : ev cf (.and x y) ρ = some [.val (.bool false)] := by rw [zaZ, h1]; rfl
theorem zkl {x y : X} (h1 : ev cf x ρ = some [.val (.bool true)]) (h2 : ev cf y ρ = some [a]) : ev cf (.and x y) ρ = some [a] := by rw [zaZ, h1]; exact h2
theorem V_and {x y : X} {p q : Bool} (h1 : ev cf x ρ = some [.val (.bool p)]) (h2 : p = true → ev cf y ρ = some [.val (.bool q)]) : ev cf (.and x y) ρ = some [.val (.bool (p && q))] := by
  cases p
  · exact zkm h1
  · exact zkl h1 (h2 rfl)
theorem zkj {x y z : X} (h1 : ev cf x ρ = some [.val (.bool true)]) (h2 : ev cf y ρ = some [a]) : ev cf (.ite x y z) ρ = some [a] := by rw [zaW, h1]; exact h2
theorem zkk {x y z : X} (h1 : ev cf x ρ = some [.val (.bool false)]) (h2 : ev cf z ρ = some [a]) : ev cf (.ite x y z) ρ = some [a] := by rw [zaW, h1]; exact h2
theorem zf2 {x : X} {d : D} {l : List D} (h1 : ev cf x ρ = some [a]) (h2 : a.fz = some d) (h3 : itemsOf d = some l) : ev cf (.seqI x) ρ = some [.val (.list l)] := by rw [zaJ, h1]; simp only [h2, h3]; rfl
theorem zbV {xs : X} {rs : List R} {l : List D} (h1 : ev cf xs ρ = some rs) (h : opRange (rs.map R.ds) = some l) : ev cf (.rangeI xs) ρ = some [.val (.list l)] := by rw [zal, h1]; simp only [h]; rfl
theorem E_of {x : X} {d : D} (h : ev cf x ρ = some [a]) (h2 : a.fz = some d) : ev1 cf x ρ = some d := by rw [zbK, h]; exact h2
theorem T_of {x : X} {t : Bool} (h : ev cf x ρ = some [.val (.bool t)]) : evT cf x ρ = some t := by rw [zbS, h]; rfl
theorem I_of {x : X} {l : List D} (h : ev cf x ρ = some [.val (.list l)]) : evI cf x ρ = some l := by rw [zbY, h]; rfl
theorem V_v {ρ : List Slot} {i : Nat} {s : Slot} {d : D} (e : ρ[i]? = some s) (h : s = .val d) : ev cf (.var i) ρ = some [.val d] := by rw [zaX, e, h]
theorem V_or {x y : X} {p q : Bool} (h1 : ev cf x ρ = some [.val (.bool p)]) (h2 : ev cf y ρ = some [.val (.bool q)]) : ev cf (.or x y) ρ = some [.val (.bool (p || q))] := by
  rw [zbl, h1]
  cases p
  · exact h2
  · rfl
theorem V_not {x : X} {p : Bool} (h1 : ev cf x ρ = some [.val (.bool p)]) : ev cf (.not x) ρ = some [.val (.bool (!p))] := by
  rw [zaY, h1]; rfl
end
section
variable {cf : CfT} {ρ : List Slot} {a b c : R}
theorem zc5 {α : Type} {f : D → Option (Option D)} {g v : α → D} {p : α → Bool} : ∀ {l : List α}, (∀ a ∈ l, f (g a) = some (if p a then some (v a) else none)) → compGo f (l.map g) = some ((l.filter p).map v)
  | [], _ => rfl
  | a :: l, h => by
    rw [List.map_cons]
    unfold compGo
    rw [h a List.mem_cons_self, zc5 fun b hb => h b (List.mem_cons_of_mem _ hb)]
    cases e : p a
    · rw [List.filter_cons_of_neg (by rw [e]; exact Bool.false_ne_true)]; rfl
    · rw [List.filter_cons_of_pos e]; rfl
theorem zf4 {p : Bool} {x : Option (List R)} {y : Option (List R)} {d : D} {r : R} (h1 : x = some [.val (.bool p)]) (h2 : p = true → y = some [r]) (h3 : r.fz = some d) : turnD x y = some (if p then some d else none) := by
  rw [h1]
  cases p
  · rfl
  · rw [h2 rfl]
    show r.fz.map some = _
    rw [h3]; rfl
theorem zjl {α : Type} {i : Nat} {it cd e : X} {l : List α} {g v : α → D} {p : α → Bool} (h : ev cf it ρ = some [.val (.list (l.map g))])
    (hg : ∀ a ∈ l, turnD (ev cf cd (ρ.set i (.val (g a)))) (ev cf e (ρ.set i (.val (g a)))) = some (if p a then some (v a) else none)) : ev cf (.comp i it cd e) ρ = some [.own ((l.filter p).map v)] :=
  zkg h (zc5 hg)
end
theorem zdv {α β : Type} {l : List α} {f g : α → β} (h : l.map f = l.map g) {a : α} (ha : a ∈ l) : f a = g a := List.map_inj_left.mp h a ha
noncomputable def upd (f : Nat → Slot) (i : Nat) (v : Slot) : Nat → Slot := fun k => if k = i then v else f k
noncomputable def NA (f : Nat → Slot) : Prop := ∀ i k, appOK k (f i) = true
theorem NA.upd {f : Nat → Slot} (h : NA f) {i : Nat} {v : Slot} (hv : ∀ k, appOK k v = true) : NA (upd f i v) := by
  intro j k
  unfold Mine.upd
  split
  · exact hv k
  · exact h j k
section
variable {cf : CfT} {f : Nat → Slot}
theorem zfh {ρ : List Slot} {α : Type} {i : Nat} {it e : X} {l : List α} {g v : α → D} (h : ev cf it ρ = some [.val (.list (l.map g))])
    (hg : ∀ a ∈ l, ∃ r, ev cf e (ρ.set i (.val (g a))) = some [r] ∧ r.fz = some (v a)) : ev cf (.comp i it (.const (.bool true)) e) ρ = some [.own (l.map v)] := by
  have := zjl (cf := cf) (i := i) (cd := .const (.bool true)) (e := e) (p := fun _ => true) (v := v) h fun a ha => by
    obtain ⟨r, h1, h2⟩ := hg a ha
    exact zf4 (p := true) (d := v a) rfl (fun _ => h1) h2
  rw [List.filter_eq_self.mpr fun _ _ => rfl] at this
  exact this
end
noncomputable def nI (i : Nat) : D := .int (i : Int)
theorem zf1 {α : Type} {β : Type} {g : α → β} {l : List α} {i : Nat} (h : i < l.length) (d : α) : (l.map g)[i]? = some (g (l.getD i d)) := by
  rw [List.getElem?_map, List.getD_eq_getElem?_getD, List.getElem?_eq_getElem h]; rfl
theorem ze7 {α : Type} {l : List α} {i : Nat} (h : i < l.length) (d : α) : l.getD i d ∈ l := by
  rw [List.getD_eq_getElem?_getD, List.getElem?_eq_getElem h]; exact List.getElem_mem _
theorem zbs {n : Nat} (h : n ≤ 1000000) : opRange [nI n] = some ((List.range' 0 n).map nI) := zih h
theorem zio {α : Type} {g : α → D} {l : List α} : opF .len [.list (l.map g)] = some (.val (nI l.length)) := by
  show some (R.val (.int ((l.map g).length : Int))) = _
  rw [List.length_map]; rfl
theorem zgW {a b : Nat} : opF .add [.int (a : Int), .int (b : Int)] = some (.val (.int ((a + b : Nat) : Int))) := by
  show some (R.val (.int ((a : Int) + (b : Int)))) = _
  congr 3
theorem zgl {α : Type} {f : α → D} {k : Nat} (h : ∀ a, (f a).ok k = true) : ∀ l : List α, D.oks k (l.map f) = true
  | [] => rfl
  | a :: l => by
    rw [List.map_cons]
    unfold D.oks
    rw [h a, zgl h l]; rfl
theorem zjk {α : Type} {f : α → D} {y : D} {P : α → Bool} (h : ∀ a, PyData.eqv (f a).toPy y.toPy = P a) : ∀ l : List α, ((D.toPys (l.map f)).any fun x => PyData.eqv x y.toPy) = l.any P
  | [] => rfl
  | a :: l => by
    rw [List.map_cons]
    unfold D.toPys
    rw [List.any_cons, h a, zjk h l]; rfl
theorem zkB {α : Type} {f : α → D} {y : D} {P : α → Bool} {l : List α} (ho : ∀ a, (f a).ok 8 = true) (hy : y.ok 9 = true) (h : ∀ a, PyData.eqv (f a).toPy y.toPy = P a) : inD y (.list (l.map f)) = some (l.any P) := by
  show (if (D.oks 8 (l.map f) && y.ok 9) = true then some ((D.toPys (l.map f)).any fun x => PyData.eqv x y.toPy) else none) = _
  rw [zgl ho, hy, zjk h]; rfl
theorem zhZ {l : List Nat} {k : Nat} (h : k < l.length) (hk : k ≤ 1000000) : opF .index [.tup (l.map fun (n : Nat) => .int (n : Int)), .int (k : Int)] = some (.val (.int (l.getD k 0 : Int))) := by
  refine zeX ?_ hk
  rw [List.getElem?_map, List.getD_eq_getElem?_getD, List.getElem?_eq_getElem h]; rfl
theorem eqv_int {a b : Int} : PyData.eqv (D.int a).toPy (D.int b).toPy = decide (a = b) := by
  unfold D.toPy
  simp [PyData.eqv]
  rfl
theorem in_nats {l : List Nat} {n : Nat} : opF .in_ [nI n, .list (l.map nI)] = some (.val (.bool (decide (n ∈ l)))) := by
  show (inD (nI n) (.list (l.map nI))).map (fun x => R.val (.bool x)) = _
  rw [zkB (f := nI) (y := nI n) (P := fun (a : Nat) => decide ((a : Int) = (n : Int))) (fun _ => rfl) rfl fun a => eqv_int]
  have : (l.any fun (a : Nat) => decide ((a : Int) = (n : Int))) = decide (n ∈ l) := by
    rw [Bool.eq_iff_iff, List.any_eq_true, decide_eq_true_eq]
    exact ⟨fun ⟨a, h, e⟩ => Int.ofNat.inj (of_decide_eq_true e) ▸ h, fun h => ⟨n, h, decide_eq_true rfl⟩⟩
  rw [this]; rfl
end Mine
end
section
open PySem
namespace Mine
theorem zhr (n : Nat) : (seqs02 (n + 1)).length = 1 + 7 * (seqs02 n).length := by
  show ([] :: its02.flatMap fun x => (seqs02 n).map (x ++ ·)).length = _
  rw [List.length_cons, List.length_flatMap]
  simp only [List.length_map, its02, List.map_cons, List.map_nil, List.sum_cons, List.sum_nil]
  omega
theorem dl02 : cp02.dom.length ≤ lim := by
  show (seqs02 7).length ≤ 1000000
  simp only [zhr]
  decide
noncomputable def cv02 (k : List Nat) : Option D := callF fns02 2 1 [.str k, .tok 0, .str cp02.qm]
noncomputable def ck02 (cf : CfT) : Prop := (cf 1 [.str [97], .tok 0, .str cp02.qm]).isSome → ∀ k d, k ∈ cp02.dom → cf 1 [.str k, .tok 0, .str cp02.qm] = some d → cv02 k = some d
theorem ck02_0 : ck02 (callF fns02 0) := fun h => nomatch h
theorem ck02_1 : ck02 (callF fns02 1) := fun h => by
  have e : callF fns02 1 1 [.str [97], .tok 0, .str cp02.qm] = none := by kernel_rfl
  rw [e] at h; cases h
end Mine
end
section
open PySem PySem.StrLaws PySem.Builtin PySem.Builtin.Str
namespace Mine
noncomputable def sg2 : List Nat := [97, 98, 47]
noncomputable def aT (k : Nat) : List Nat := [[97], [98], [47], [63], [91, 33, 97, 93], [42], [91, 97, 45, 98, 93]].getD k []
noncomputable def aP (k : Nat) : D := [.str [97], .str [98], .str [47], .str [46], .str [91, 94, 97, 93], .tok 0, .str [91, 97, 45, 98, 93], .str [91, 94, 47, 93]].getD k .none
noncomputable def aC (k : Nat) : List Nat := [[97], [98], [47], [97, 98, 47], [98, 47], [], [97, 98], [97, 98]].getD k []
inductive Mt : List Nat → List Nat → Prop
  | nil : Mt [] []
  | star {as u v : List Nat} : Mt as v → Mt (5 :: as) (u ++ v)
  | one {k c : Nat} {as v : List Nat} : k ≠ 5 → c ∈ aC k → Mt as v → Mt (k :: as) (c :: v)
theorem Mt.nil_iff {u : List Nat} : Mt [] u ↔ u = [] := ⟨fun h => by cases h; rfl, fun h => h ▸ .nil⟩
theorem Mt.star_iff {as w : List Nat} : Mt (5 :: as) w ↔ ∃ u v, w = u ++ v ∧ Mt as v :=
  ⟨fun h => by cases h with
    | star h => exact ⟨_, _, rfl, h⟩
    | one h => exact absurd rfl h, fun ⟨u, v, e, h⟩ => e ▸ .star h⟩
theorem Mt.one_iff {k : Nat} {as w : List Nat} (hk : k ≠ 5) : Mt (k :: as) w ↔ ∃ c v, w = c :: v ∧ c ∈ aC k ∧ Mt as v :=
  ⟨fun h => by cases h with
    | star h => exact absurd rfl hk
    | one _ h1 h2 => exact ⟨_, _, rfl, h1, h2⟩, fun ⟨c, v, e, h1, h2⟩ => e ▸ .one hk h1 h2⟩
theorem Mt.app : ∀ {as bs w : List Nat}, Mt (as ++ bs) w ↔ ∃ u v, w = u ++ v ∧ Mt as u ∧ Mt bs v
  | [], bs, w => ⟨fun h => ⟨[], w, rfl, .nil, h⟩, fun ⟨u, v, e, h1, h2⟩ => by cases h1; exact e ▸ h2⟩
  | k :: as, bs, w => by
    by_cases hk : k = 5
    · subst hk
      rw [List.cons_append, Mt.star_iff]
      constructor
      · rintro ⟨u, v, rfl, h⟩
        obtain ⟨x, y, rfl, h1, h2⟩ := Mt.app.mp h
        exact ⟨u ++ x, y, (List.append_assoc ..).symm, .star h1, h2⟩
      · rintro ⟨u, v, rfl, h1, h2⟩
        obtain ⟨x, y, rfl, h⟩ := Mt.star_iff.mp h1
        exact ⟨x, y ++ v, List.append_assoc .., Mt.app.mpr ⟨y, v, rfl, h, h2⟩⟩
    · rw [List.cons_append, Mt.one_iff hk]
      constructor
      · rintro ⟨c, v, rfl, hc, h⟩
        obtain ⟨x, y, rfl, h1, h2⟩ := Mt.app.mp h
        exact ⟨c :: x, y, rfl, .one hk hc h1, h2⟩
      · rintro ⟨u, v, rfl, h1, h2⟩
        obtain ⟨c, y, rfl, hc, h⟩ := (Mt.one_iff hk).mp h1
        exact ⟨c, y ++ v, rfl, hc, Mt.app.mpr ⟨y, v, rfl, h, h2⟩⟩
noncomputable def mv (w : List Nat) (at_ : List Nat) (k : Nat) : List Nat :=
  if k = 5 then (match at_ with | [] => [] | p :: _ => List.range' p (w.length + 1 - p))
  else (at_.filter fun p => decide (p < w.length) && decide (w.getD p 0 ∈ aC k)).map (· + 1)
theorem mv_star {w : List Nat} {p : Nat} {r : List Nat} : mv w (p :: r) 5 = List.range' p (w.length + 1 - p) := rfl
theorem ziz {w at_ : List Nat} {k : Nat} (hk : k ≠ 5) : mv w at_ k = (at_.filter fun p => decide (p < w.length) && decide (w.getD p 0 ∈ aC k)).map (· + 1) := if_neg hk
set_option genInjectivity false in
structure Pl (w at_ : List Nat) : Prop where
  so : at_.Pairwise (· < ·)
  le : ∀ p ∈ at_, p ≤ w.length
theorem zg3 {p l q : Nat} (h : p ≤ l) : q ∈ List.range' p (l + 1 - p) ↔ p ≤ q ∧ q ≤ l := by
  rw [List.mem_range'_1, Nat.add_sub_cancel' (Nat.le_succ_of_le h), Nat.lt_succ_iff]
theorem mv_pl {w at_ : List Nat} {k : Nat} (P : Pl w at_) : Pl w (mv w at_ k) := by
  by_cases hk : k = 5
  · subst hk
    cases at_ with
    | nil => exact P
    | cons p r => exact ⟨List.pairwise_lt_range', fun q h => ((zg3 (P.le p List.mem_cons_self)).mp h).2⟩
  · rw [ziz hk]
    refine ⟨List.pairwise_map.mpr ((P.so.sublist List.filter_sublist).imp fun h => Nat.succ_lt_succ h), fun q h => ?_⟩
    obtain ⟨p, hp, rfl⟩ := List.mem_map.mp h
    have := (List.mem_filter.mp hp).2
    rw [Bool.and_eq_true] at this
    exact of_decide_eq_true this.1
theorem ziA {w : List Nat} {p k : Nat} {as : List Nat} (hk : k ≠ 5) : Mt (k :: as) (w.drop p) ↔ (p < w.length ∧ w.getD p 0 ∈ aC k) ∧ Mt as (w.drop (p + 1)) := by
  rw [Mt.one_iff hk]
  by_cases h : p < w.length
  · rw [List.drop_eq_getElem_cons h, List.getD_eq_getElem?_getD, List.getElem?_eq_getElem h]
    exact ⟨fun ⟨c, v, e, h1, h2⟩ => (by cases e; exact ⟨⟨h, h1⟩, h2⟩), fun ⟨h1, h2⟩ => ⟨_, _, rfl, h1.2, h2⟩⟩
  · rw [List.drop_eq_nil_of_le (Nat.not_lt.mp h)]
    exact ⟨fun ⟨c, v, e, _⟩ => (nomatch e), fun ⟨h1, _⟩ => absurd h1.1 h⟩
theorem zkA {w : List Nat} : ∀ {as at_ : List Nat}, Pl w at_ → (w.length ∈ as.foldl (mv w) at_ ↔ ∃ p ∈ at_, Mt as (w.drop p))
  | [], at_, P => by
    simp only [List.foldl_nil, Mt.nil_iff, List.drop_eq_nil_iff]
    exact ⟨fun h => ⟨_, h, Nat.le_refl _⟩, fun ⟨p, h, e⟩ => Nat.le_antisymm (P.le p h) e ▸ h⟩
  | k :: as, at_, P => by
    rw [List.foldl_cons, zkA (mv_pl P)]
    by_cases hk : k = 5
    · subst hk
      cases at_ with
      | nil => exact ⟨fun ⟨_, h, _⟩ => (nomatch h), fun ⟨_, h, _⟩ => nomatch h⟩
      | cons p r =>
        simp only [mv_star, zg3 (P.le p List.mem_cons_self)]
        constructor
        · rintro ⟨q, h, hm⟩
          refine ⟨p, List.mem_cons_self, ?_⟩
          have : w.drop p = (w.drop p).take (q - p) ++ w.drop q := by
            conv => lhs; rw [← List.take_append_drop (q - p) (w.drop p)]
            rw [List.drop_drop, Nat.add_sub_cancel' h.1]
          rw [this]
          exact .star hm
        · rintro ⟨p', hp, hm⟩
          obtain ⟨u, v, e, hm⟩ := Mt.star_iff.mp hm
          have hle : p ≤ p' := by
            rcases List.mem_cons.mp hp with rfl | hp
            · exact Nat.le_refl _
            · exact Nat.le_of_lt (List.rel_of_pairwise_cons P.so hp)
          have e2 : v = w.drop (p' + u.length) := by rw [← List.drop_drop, e, List.drop_left]
          have e3 := congrArg List.length e
          rw [List.length_drop, List.length_append] at e3
          refine ⟨p' + u.length, ⟨Nat.le_trans hle (Nat.le_add_right _ _), ?_⟩, e2 ▸ hm⟩
          have := P.le p' hp
          clear hle e e2 hm P
          omega
    · rw [ziz hk]
      constructor
      · rintro ⟨q, h, hm⟩
        obtain ⟨p, hp, rfl⟩ := List.mem_map.mp h
        have hp := List.mem_filter.mp hp
        simp only [Bool.and_eq_true, decide_eq_true_eq] at hp
        exact ⟨p, hp.1, (ziA hk).mpr ⟨hp.2, hm⟩⟩
      · rintro ⟨p, hp, hm⟩
        have := (ziA hk).mp hm
        refine ⟨p + 1, List.mem_map_of_mem (List.mem_filter.mpr ⟨hp, ?_⟩), this.2⟩
        simp only [Bool.and_eq_true, decide_eq_true_eq]
        exact this.1
theorem pl0 (w : List Nat) : Pl w [0] := ⟨List.pairwise_singleton _ _, fun p h => by rw [List.mem_singleton.mp h]; exact Nat.zero_le _⟩
theorem mv_all {w as : List Nat} : w.length ∈ as.foldl (mv w) [0] ↔ Mt as w := by
  rw [zkA (pl0 w)]
  exact ⟨fun ⟨p, h, hm⟩ => by rw [List.mem_singleton.mp h] at hm; exact hm, fun h => ⟨0, List.mem_cons_self, h⟩⟩
noncomputable def tkB : S := (.seq (.ite (.op .is_ (.cons (.var 4) (.cons (.var 1) .nil))) (.seq (.assign 3 (.ite (.var 3) (.op .listOf (.cons (.rangeI (.cons (.op .index (.cons (.var 3) (.cons (.const (.int 0)) .nil))) (.cons (.op .add (.cons (.op .len (.cons (.var 2) .nil)) (.cons (.const (.int 1)) .nil))) .nil))) .nil)) (.list .nil))) .skip) (.seq (.assign 3 (.comp 5 (.seqI (.var 3)) (.and (.op .lt (.cons (.var 5) (.cons (.op .len (.cons (.var 2) .nil)) .nil))) (.call 14 (.cons (.var 4) (.cons (.op .index (.cons (.var 2) (.cons (.var 5) .nil))) .nil)))) (.op .add (.cons (.var 5) (.cons (.const (.int 1)) .nil))))) .skip)) .skip)
section
variable {cf : CfT}
noncomputable def atD (l : List Nat) : D := .list (l.map nI)
theorem star_ev {ρ : List Slot} {i j : Nat} {w at_ : List Nat} (g : ρ[i]? = some (.val (atD at_))) (g2 : ρ[j]? = some (.val (.str w))) (hw : w.length ≤ 100) (P : Pl w at_) :
    ev cf (.ite (.var i) (.op .listOf (.cons (.rangeI (.cons (.op .index (.cons (.var i) (.cons (.const (.int 0)) .nil))) (.cons (.op .add (.cons (.op .len (.cons (.var j) .nil)) (.cons (.const (.int 1)) .nil))) .nil))) .nil)) (.list .nil)) ρ = some [.own ((mv w at_ 5).map nI)] := by
  rw [zaW, V_v g rfl]
  cases at_ with
  | nil => rfl
  | cons p r =>
    have hp := P.le p List.mem_cons_self
    have h1 : opRange [nI p, nI (w.length + 1)] = some ((List.range' p (w.length + 1 - p)).map nI) := zig (Nat.le_trans hp (Nat.le_trans hw (by decide))) (Nat.le_trans (Nat.succ_le_succ hw) (by decide))
    have h0 : opF .index [atD (p :: r), .int 0] = some (.val (nI p)) := zbE (k := 0) rfl (Nat.zero_le _)
    exact V_op1 (zbV (zao (V_op2 (V_v g rfl) rfl h0) (zao (V_op2 (V_op1 (V_v g2 rfl) rfl) rfl (show opF .add [nI w.length, .int 1] = some (.val (nI (w.length + 1))) from rfl)) rfl)) h1) rfl
theorem step_ev {ρ : List Slot} {i j k : Nat} {x : X} {w at_ : List Nat} (g : ρ[i]? = some (.val (atD at_))) (g5 : ∀ d, (ρ.set 5 d)[5]? = some d) (g2 : ∀ d, (ρ.set 5 d)[j]? = some (.val (.str w))) (hk : k ≠ 5)
    (hx : ∀ p, p < w.length → ev cf x (ρ.set 5 (.val (nI p))) = some [.val (.bool (decide (w.getD p 0 ∈ aC k)))]) :
    ev cf (.comp 5 (.seqI (.var i)) (.and (.op .lt (.cons (.var 5) (.cons (.op .len (.cons (.var j) .nil)) .nil))) x) (.op .add (.cons (.var 5) (.cons (.const (.int 1)) .nil)))) ρ = some [.own ((mv w at_ k).map nI)] := by
  rw [ziz hk, List.map_map]
  refine zjl (g := nI) (zf2 (V_v g rfl) rfl rfl) fun p _ => zf4 (V_and ?_ fun h => hx p (of_decide_eq_true h)) (fun _ => V_op2 (V_v (g5 _) rfl) rfl rfl) rfl
  have e : opF .lt [nI p, nI w.length] = some (.val (.bool (decide (p < w.length)))) := by
    show some (R.val (.bool (decide ((p : Int) < (w.length : Int))))) = _
    rw [decide_eq_decide.mpr Int.ofNat_lt]
  exact V_op2 (V_v (g5 _) rfl) (V_op1 (V_v (g2 _) rfl) rfl) e
theorem zfQ {b : S} {i : Nat} {g : Nat → D} {w : List Nat} {I : List Nat → List Slot → Prop}
    (turn : ∀ k, k < 8 → ∀ a ρ, Pl w a → I a ρ → ∃ ρ', ex cf b (ρ.set i (.val (g k))) = some (ρ', .next) ∧ I (mv w a k) ρ') : ∀ {L : List Nat}, (∀ k ∈ L, k < 8) → ∀ {a : List Nat} {ρ : List Slot}, Pl w a → I a ρ → ∃ ρ', forGo (put1 i) (ex cf b) (L.map g) ρ = some (ρ', .next) ∧ I (L.foldl (mv w) a) ρ'
  | [], _, a, ρ, _, h => ⟨ρ, rfl, h⟩
  | k :: L, hL, a, ρ, P, h => by
    obtain ⟨ρ1, e1, h1⟩ := turn k (hL k List.mem_cons_self) a ρ P h
    obtain ⟨ρ2, e2, h2⟩ := zfQ turn (fun k hk => hL k (List.mem_cons_of_mem _ hk)) (mv_pl (k := k) P) h1
    exact ⟨ρ2, zaM (st := put1 i) zii e1 (zbp e2), h2⟩
theorem zjK {w : List Nat} {p : Nat} (h : p < w.length) (hw : w.length ≤ 100) : opF .index [.str w, nI p] = some (.val (.str [w.getD p 0])) := by
  show (if small (p : Int) = true then (match place (p : Int) w.length with | some k => (w[k]?).map (fun c => R.val (.str [c])) | none => none) else none) = _
  rw [if_pos (zbk (Nat.le_trans (Nat.le_of_lt h) (Nat.le_trans hw (by decide))))]
  unfold place
  rw [if_pos (Int.natCast_nonneg p), if_pos (Int.ofNat_lt.mpr h), Int.toNat_natCast]
  show (w[p]?).map (fun c => R.val (.str [c])) = _
  rw [List.getD_eq_getElem?_getD, List.getElem?_eq_getElem h]
  rfl
theorem is2 : (List.range 8).map (fun k => opF .is_ [aP k, .tok 0]) = (List.range 8).map fun k => some (.val (.bool (decide (k = 5)))) := by kernel_rfl
theorem one2 (m : Nat) : [0, 1, 2, 3, 4, 6, 7].map (fun k => sg2.map fun c => callF fns02 (m + 1) 14 [aP k, .str [c]]) = [0, 1, 2, 3, 4, 6, 7].map fun k => sg2.map fun c => some (.bool (decide (c ∈ aC k))) := by kernel_rfl
theorem mem2 : ∀ k, k < 8 → k ≠ 5 → k ∈ [0, 1, 2, 3, 4, 6, 7] := by decide
theorem takes2 (m : Nat) {L w : List Nat} (hL : ∀ k ∈ L, k < 8) (hw : ∀ c ∈ w, c ∈ sg2) (hl : w.length ≤ 100) : ∃ b, callF fns02 (m + 2) 15 [.list (L.map aP), .tok 0, .str w] = some (.bool b) ∧ (b = true ↔ Mt L w) := by
  refine ⟨decide (w.length ∈ L.foldl (mv w) [0]), ?_, by rw [decide_eq_true_eq, mv_all]⟩
  refine zct (fn := fn_law_takes) rfl (ρ := [.val (.list (L.map aP)), .val (.tok 0), .val (.str w), .unset, .unset, .unset]) rfl ?_
  show ∃ ρ', ex (callF fns02 (m + 1)) s_law_takes _ = _
  obtain ⟨_, e, x, rfl⟩ := zfQ (cf := callF fns02 (m + 1)) (b := tkB) (i := 4) (g := aP) (w := w) (I := fun a ρ => ∃ x, ρ = [.val (.list (L.map aP)), .val (.tok 0), .val (.str w), .val (atD a), x, .unset]) (fun k hk a ρ P h => by
    obtain ⟨x, rfl⟩ := h
    refine ⟨_, ?_, .val (aP k), rfl⟩
    have hi := zdv is2 (List.mem_range.mpr hk)
    unfold tkB
    by_cases h5 : k = 5
    · subst h5
      exact R_seq (R_ite (t := true) (T_of (V_op2 rfl rfl hi)) (R_tt (R_seq (zak (E_of (star_ev rfl rfl hl P) rfl) rfl) (zaf zan)))) (zaf zan)
    · rw [decide_eq_false h5] at hi
      have ho := zdv (one2 m) (mem2 k hk h5)
      exact R_seq (R_ite (t := false) (T_of (V_op2 rfl rfl hi)) (R_ff (R_seq (zak (E_of (step_ev (k := k) rfl (fun _ => rfl) (fun _ => rfl) h5 fun p hp => zb3 (zao rfl (zao (V_op2 rfl rfl (zjK hp hl)) rfl)) rfl (zdv ho (hw _ (ze7 hp 0)))) rfl) rfl) (zaf zan)))) (zaf zan)) hL (pl0 w) ⟨.unset, rfl⟩
  unfold tkB at e
  unfold s_law_takes
  exact ⟨_, R_seq (zak (d := atD [0]) rfl rfl) (zaf (R_seq (R_for (I_of (zf2 rfl rfl rfl)) e) (zaf (R_seq (R_ret (E_of (V_op2 (V_op1 rfl rfl) rfl in_nats) rfl)) zai))))⟩
end
noncomputable def mgA (r : List Nat) (k : Nat) : List Nat := if k = 5 ∧ r.getLast? = some 5 then r else r ++ [k]
noncomputable def mg (as : List Nat) : List Nat := as.foldl mgA []
noncomputable def atO (k : Nat) : Option D := if k = 5 then none else some (aP k)
noncomputable def rq (q k : Nat) : Nat := if k = 3 then q else k
noncomputable def at2 (q k : Nat) : List Nat × Option D := (aT k, atO (rq q k))
noncomputable def tx (as : List Nat) : List Nat := as.flatMap aT
theorem tok2 : (List.range 8).map (fun k => isTok0 (aP k)) = (List.range 8).map fun k => decide (k = 5) := by kernel_rfl
theorem push2 {r : List Nat} {k : Nat} (hr : ∀ k ∈ r, k < 8) : pushA (r.map aP) (atO k) = (mgA r k).map aP := by
  unfold atO mgA
  by_cases hk : k = 5
  · subst hk
    rw [if_pos rfl]
    unfold pushA
    rw [List.getLast?_map]
    cases e : r.getLast? with
    | none => rw [if_neg (by decide), if_neg (by simp), List.map_append]; rfl
    | some x =>
      have := zdv tok2 (List.mem_range.mpr (hr x (List.mem_of_getLast? e)))
      show (if some (isTok0 (aP x)) = some true then _ else _) = _
      rw [this]
      by_cases hx : x = 5
      · subst hx; rfl
      · rw [if_neg (by simp [hx]), if_neg (by simp [hx]), List.map_append]; rfl
  · rw [if_neg hk, if_neg fun h => hk h.1, List.map_append]; rfl
theorem mgA_lt {r : List Nat} {k : Nat} (hr : ∀ k ∈ r, k < 8) (hk : k < 8) : ∀ j ∈ mgA r k, j < 8 := by
  intro j hj
  unfold mgA at hj
  split at hj
  · exact hr j hj
  · rcases List.mem_append.mp hj with h | h
    · exact hr j h
    · rw [List.mem_singleton.mp h]; exact hk
theorem rq_lt {q k : Nat} (hq : q = 3 ∨ q = 7) (hk : k < 7) : rq q k < 8 := by
  unfold rq
  split
  · rcases hq with rfl | rfl <;> decide
  · exact Nat.lt_succ_of_lt hk
theorem zgj {q : Nat} (hq : q = 3 ∨ q = 7) : ∀ {as r : List Nat}, (∀ k ∈ as, k < 7) → (∀ k ∈ r, k < 8) → outA (r.map aP) (as.map (at2 q)) = ((as.map (rq q)).foldl mgA r).map aP ∧ ∀ k ∈ (as.map (rq q)).foldl mgA r, k < 8
  | [], r, _, hr => ⟨rfl, hr⟩
  | k :: as, r, h, hr => by
    have := zgj hq (as := as) (r := mgA r (rq q k)) (fun j hj => h j (List.mem_cons_of_mem _ hj)) (mgA_lt hr (rq_lt hq (h k List.mem_cons_self)))
    rw [← push2 hr] at this
    exact this
theorem mt_mgA {r : List Nat} {k : Nat} {q w : List Nat} : Mt (mgA r k ++ q) w ↔ Mt (r ++ k :: q) w := by
  unfold mgA
  split
  · rename_i h
    obtain ⟨rfl, h⟩ := h
    obtain ⟨r', rfl⟩ : ∃ r', r = r' ++ [5] := by
      rcases List.eq_nil_or_concat r with rfl | ⟨r', d, rfl⟩
      · cases h
      · rw [List.concat_eq_append] at h ⊢
        rw [List.getLast?_append] at h
        exact ⟨r', by cases h; rfl⟩
    rw [List.append_assoc, List.append_assoc]
    show Mt (r' ++ 5 :: q) w ↔ Mt (r' ++ 5 :: 5 :: q) w
    rw [Mt.app, Mt.app]
    have e : ∀ v, Mt (5 :: q) v ↔ Mt (5 :: 5 :: q) v := fun v => by
      constructor
      · intro h
        exact .star (u := []) h
      · intro h
        obtain ⟨a, b, rfl, h1⟩ := Mt.star_iff.mp h
        obtain ⟨c, d, rfl, h2⟩ := Mt.star_iff.mp h1
        rw [← List.append_assoc]
        exact .star h2
    simp only [e]
  · rw [List.append_assoc]; rfl
theorem mt_mg : ∀ {as r : List Nat} {w : List Nat}, Mt (as.foldl mgA r) w ↔ Mt (r ++ as) w
  | [], r, w => by rw [List.append_nil]; rfl
  | k :: as, r, w => by rw [List.foldl_cons, mt_mg, mt_mgA]
theorem atoms2 {q k : Nat} (hq : q = 3 ∨ q = 7) (h : k < 7) : IsAtom2 (aP q) (aT k) (atO (rq q k)) ∧ ∀ d, atO (rq q k) = some d → GoodD d ∨ d = .tok 0 := by
  have hg : ∀ k, k < 8 → ∀ d, atO k = some d → GoodD d ∨ d = .tok 0 := fun k hk d e => by
    have g : (List.range 8).map (fun k => (atO k).map fun d => opF .isnot [d, .tok 0]) = (List.range 8).map fun k => (atO k).map fun _ => some (R.val (.bool true)) := by kernel_rfl
    have g := zdv g (List.mem_range.mpr hk)
    rw [e] at g
    exact .inl (Option.some.inj g)
  have ch := fun {c : Nat} h1 h2 h3 h4 => zji (q := aP q) (c := c) h1 h2 h3 h4
  have hm : atO (rq q 3) = some (aP q) := by rcases hq with rfl | rfl <;> rfl
  have all : ∀ k ∈ [0, 1, 2, 3, 4, 5, 6], IsAtom2 (aP q) (aT k) (atO (rq q k)) := List.forall_mem_cons.mpr ⟨ch (by decide) (by decide) (by decide) (by decide), List.forall_mem_cons.mpr ⟨ch (by decide) (by decide) (by decide) (by decide), List.forall_mem_cons.mpr ⟨ch (by decide) (by decide) (by decide) (by decide), List.forall_mem_cons.mpr ⟨hm ▸ zki, List.forall_mem_cons.mpr ⟨zjh, List.forall_mem_cons.mpr ⟨zgy, List.forall_mem_cons.mpr ⟨zjj, fun _ h => nomatch h⟩⟩⟩⟩⟩⟩⟩
  exact ⟨all k ((show ∀ k, k < 7 → k ∈ [0, 1, 2, 3, 4, 5, 6] by decide) k h), hg _ (rq_lt hq h)⟩
theorem zgD {as : List Nat} (h : ∀ k ∈ as, k < 7) : (tx as).length ≤ 6 * as.length := by
  have h6 : ∀ k, k < 7 → (aT k).length ≤ 6 := by decide
  induction as with
  | nil => exact Nat.le_refl _
  | cons k as ih =>
    have := ih fun j hj => h j (List.mem_cons_of_mem _ hj)
    show (aT k ++ tx as).length ≤ 6 * (as.length + 1)
    rw [List.length_append, Nat.mul_succ, Nat.add_comm]
    exact Nat.add_le_add this (h6 k (h k List.mem_cons_self))
theorem zfn (m : Nat) {q : Nat} (hq : q = 3 ∨ q = 7) {as : List Nat} (h : ∀ k ∈ as, k < 7) (hl : as.length ≤ 100) : callF fns02 (m + 2) 1 [.str (tx as), .tok 0, aP q] = some (.list ((mg (as.map (rq q))).map aP)) := by
  have ht : textA (as.map (at2 q)) = tx as := by unfold textA tx; rw [List.flatMap_map]; rfl
  have hx := zgD h
  have := zdw (fns := fns02) rfl rfl (q := aP q) (as := as.map (at2 q)) (fun a ha => by
    obtain ⟨k, hk, rfl⟩ := List.mem_map.mp ha
    exact atoms2 hq (h k hk)) (by rw [List.length_map]; exact Nat.le_trans hl (by decide)) (by rw [ht]; exact Nat.le_trans hx (Nat.le_trans (Nat.mul_le_mul_left 6 hl) (by decide))) m
  rw [ht, show ([] : List D) = ([] : List Nat).map aP from rfl, (zgj hq (r := []) h fun _ h => nomatch h).1] at this
  exact this
theorem tt2 (m : Nat) {q : Nat} (hq : q = 3 ∨ q = 7) {as w : List Nat} (h : ∀ k ∈ as, k < 7) (hw : ∀ c ∈ w, c ∈ sg2) (hl : w.length ≤ 100) : ∃ b, callF fns02 (m + 2) 15 [.list ((mg (as.map (rq q))).map aP), .tok 0, .str w] = some (.bool b) ∧ (b = true ↔ Mt (as.map (rq q)) w) := by
  obtain ⟨b, e, hb⟩ := takes2 m (zgj hq (r := []) h fun _ h => nomatch h).2 hw hl
  exact ⟨b, e, hb.trans mt_mg⟩
theorem zgN : ∀ {n : Nat} {t : List Nat}, t ∈ seqs02 n → ∃ as : List Nat, (∀ k ∈ as, k < 7) ∧ as.length ≤ n ∧ t = tx as
  | 0, t, h => ⟨[], (fun _ h => nomatch h), Nat.le_refl _, List.mem_singleton.mp h⟩
  | n + 1, t, h => by
    rcases List.mem_cons.mp h with rfl | h
    · exact ⟨[], (fun _ h => nomatch h), Nat.zero_le _, rfl⟩
    · obtain ⟨x, hx, h⟩ := List.mem_flatMap.mp h
      obtain ⟨y, hy, rfl⟩ := List.mem_map.mp h
      obtain ⟨as, h1, h2, rfl⟩ := zgN hy
      obtain ⟨k, hk, rfl⟩ : ∃ k, k < 7 ∧ x = aT k := (show ∀ x ∈ its02, ∃ k, k < 7 ∧ x = aT k by decide) x hx
      exact ⟨k :: as, fun j hj => (List.mem_cons.mp hj).elim (fun e => e ▸ hk) (h1 j), Nat.succ_le_succ h2, rfl⟩
theorem zgM : ∀ {n : Nat} {as : List Nat}, (∀ k ∈ as, k < 7) → as.length ≤ n → tx as ∈ seqs02 n
  | 0, [], _, _ => List.mem_singleton.mpr rfl
  | n + 1, [], _, _ => List.mem_cons_self
  | n + 1, k :: as, h, hl => List.mem_cons_of_mem _ (List.mem_flatMap.mpr ⟨aT k, (show ∀ k, k < 7 → aT k ∈ its02 by decide) k (h k List.mem_cons_self), List.mem_map.mpr ⟨tx as, zgM (fun j hj => h j (List.mem_cons_of_mem _ hj)) (Nat.le_of_succ_le_succ hl), rfl⟩⟩)
theorem hk02 : ∀ n, ck02 (callF fns02 n)
  | 0 => ck02_0
  | 1 => ck02_1
  | n + 2 => fun _ k d hk e => by
    obtain ⟨as, h1, h2, rfl⟩ := zgN hk
    have hl : as.length ≤ 100 := Nat.le_trans h2 (by decide)
    exact (zfn 0 (.inr rfl) h1 hl).trans ((zfn n (.inr rfl) h1 hl).symm.trans e)
end Mine
end
section
open PySem
namespace Mine
noncomputable def sl2 (w : List Nat) : Nat := w.count 47
noncomputable def nC (k : Nat) : List Nat := [[97], [98], [47], [97, 98], [98], [], [97, 98]].getD k []
inductive Mn : List Nat → List Nat → Prop
  | nil : Mn [] []
  | star {as u v : List Nat} : 47 ∉ u → Mn as v → Mn (5 :: as) (u ++ v)
  | one {k c : Nat} {as v : List Nat} : k ≠ 5 → c ∈ nC k → Mn as v → Mn (k :: as) (c :: v)
theorem Mn.nil_iff {u : List Nat} : Mn [] u ↔ u = [] := ⟨fun h => by cases h; rfl, fun h => h ▸ .nil⟩
theorem Mn.star_iff {as w : List Nat} : Mn (5 :: as) w ↔ ∃ u v, w = u ++ v ∧ 47 ∉ u ∧ Mn as v :=
  ⟨fun h => by cases h with
    | star h1 h => exact ⟨_, _, rfl, h1, h⟩
    | one h => exact absurd rfl h, fun ⟨u, v, e, h1, h⟩ => e ▸ .star h1 h⟩
theorem Mn.one_iff {k : Nat} {as w : List Nat} (hk : k ≠ 5) : Mn (k :: as) w ↔ ∃ c v, w = c :: v ∧ c ∈ nC k ∧ Mn as v :=
  ⟨fun h => by cases h with
    | star h => exact absurd rfl hk
    | one _ h1 h2 => exact ⟨_, _, rfl, h1, h2⟩, fun ⟨c, v, e, h1, h2⟩ => e ▸ .one hk h1 h2⟩
noncomputable def stars : Nat → List Nat → List Nat
  | 0, r => 5 :: r
  | j + 1, r => 5 :: 2 :: stars j r
theorem stars_iff : ∀ {j : Nat} {r w : List Nat}, Mn (stars j r) w ↔ ∃ u v, w = u ++ v ∧ sl2 u = j ∧ Mn r v
  | 0, r, w => by
    show Mn (5 :: r) w ↔ _
    rw [Mn.star_iff]
    simp only [sl2, List.count_eq_zero]
  | j + 1, r, w => by
    show Mn (5 :: 2 :: stars j r) w ↔ _
    rw [Mn.star_iff]
    constructor
    · rintro ⟨u, v, rfl, h1, h⟩
      obtain ⟨c, v', rfl, hc, h3⟩ := (Mn.one_iff (by decide)).mp h
      cases List.mem_singleton.mp (show c ∈ [47] from hc)
      obtain ⟨u2, v2, rfl, e, h4⟩ := stars_iff.mp h3
      refine ⟨u ++ 47 :: u2, v2, by simp, ?_, h4⟩
      show List.count 47 (u ++ 47 :: u2) = j + 1
      rw [List.count_append, List.count_eq_zero.mpr h1, List.count_cons_self, Nat.zero_add]
      exact congrArg (· + 1) e
    · rintro ⟨u, v, rfl, e, h⟩
      have hm : 47 ∈ u := by
        by_cases q : 47 ∈ u
        · exact q
        · rw [show sl2 u = 0 from List.count_eq_zero.mpr q] at e; cases e
      obtain ⟨x, y, rfl, hx⟩ := List.eq_append_cons_of_mem hm
      refine ⟨x, 47 :: (y ++ v), by simp, hx, .one (by decide) (by decide) (stars_iff.mpr ⟨y, v, rfl, ?_, h⟩)⟩
      have e2 : sl2 (x ++ 47 :: y) = sl2 y + 1 := by
        show List.count 47 (x ++ 47 :: y) = _
        rw [List.count_append, List.count_eq_zero.mpr hx, List.count_cons_self, Nat.zero_add]; rfl
      exact Nat.succ.inj (e2.symm.trans e)
noncomputable def SP : List Nat → Nat → List (List Nat)
  | [], s => if s = 0 then [[]] else []
  | k :: L, s => if k = 5 then (List.range (s + 1)).flatMap fun j => (SP L (s - j)).map (stars j)
    else if k = 2 then (if 0 < s then (SP L (s - 1)).map (2 :: ·) else [])
    else (SP L s).map (k :: ·) ++ (if (k = 3 ∨ k = 4) ∧ 0 < s then (SP L (s - 1)).map (2 :: ·) else [])
theorem zdN {L : List Nat} {s : Nat} : SP (5 :: L) s = (List.range (s + 1)).flatMap fun j => (SP L (s - j)).map (stars j) := rfl
theorem zdD {L : List Nat} {s : Nat} : SP (2 :: L) s = if 0 < s then (SP L (s - 1)).map (2 :: ·) else [] := rfl
theorem zgJ {L : List Nat} {k s : Nat} (h5 : k ≠ 5) (h2 : k ≠ 2) : SP (k :: L) s = (SP L s).map (k :: ·) ++ (if (k = 3 ∨ k = 4) ∧ 0 < s then (SP L (s - 1)).map (2 :: ·) else []) := by
  show (if k = 5 then _ else _) = _
  rw [if_neg h5, if_neg h2]
theorem zgK {u v : List Nat} : sl2 (u ++ v) = sl2 u + sl2 v := List.count_append
theorem zcD {c : Nat} {v : List Nat} : sl2 (c :: v) = sl2 v + if c = 47 then 1 else 0 := by
  show List.count 47 (c :: v) = _
  rw [List.count_cons]
  by_cases h : c = 47
  · subst h; rfl
  · rw [if_neg (by simpa using h), if_neg h]; rfl
noncomputable def xC (k : Nat) : List Nat := [[], [], [], [47], [47], [], []].getD k []
theorem sets2x : ∀ k, k < 7 → k ≠ 5 → k ≠ 2 → ∀ c ∈ aC k, c ∈ nC k ++ xC k := by decide
theorem sets2y : ∀ k, k < 7 → ∀ c ∈ xC k, c = 47 ∧ (k = 3 ∨ k = 4) := by decide
theorem sets2a {k : Nat} (hk : k < 7) (h5 : k ≠ 5) (h2 : k ≠ 2) {c : Nat} (h : c ∈ aC k) : c ∈ nC k ∨ (c = 47 ∧ (k = 3 ∨ k = 4)) := (List.mem_append.mp (sets2x k hk h5 h2 c h)).imp_right (sets2y k hk c)
theorem zgL : ∀ k, k < 7 → k ≠ 5 → k ≠ 2 → ∀ c ∈ nC k, c ∈ aC k ∧ c ≠ 47 := by decide
theorem sets2c {k : Nat} (h : k = 3 ∨ k = 4) : 47 ∈ aC k := by rcases h with rfl | rfl <;> decide
theorem sp_ok : ∀ {L : List Nat}, (∀ k ∈ L, k < 7) → ∀ {w : List Nat}, (∀ c ∈ w, c ∈ sg2) → (Mt L w ↔ ∃ t ∈ SP L (sl2 w), Mn t w)
  | [], _, w, _ => by
    rw [Mt.nil_iff]
    constructor
    · rintro rfl; exact ⟨[], List.mem_singleton.mpr rfl, .nil⟩
    · rintro ⟨t, ht, h⟩
      have ht : t ∈ if sl2 w = 0 then [[]] else [] := ht
      split at ht
      · rw [List.mem_singleton.mp ht] at h; exact Mn.nil_iff.mp h
      · cases ht
  | k :: L, hL, w, hw => by
    have hL' : ∀ k ∈ L, k < 7 := fun j hj => hL j (List.mem_cons_of_mem _ hj)
    by_cases h5 : k = 5
    · subst h5
      rw [Mt.star_iff, zdN]
      constructor
      · rintro ⟨u, v, rfl, h⟩
        obtain ⟨t, ht, h⟩ := (sp_ok hL' fun c hc => hw c (List.mem_append_right _ hc)).mp h
        refine ⟨stars (sl2 u) t, List.mem_flatMap.mpr ⟨sl2 u, List.mem_range.mpr ?_, List.mem_map.mpr ⟨t, ?_, rfl⟩⟩, stars_iff.mpr ⟨u, v, rfl, rfl, h⟩⟩
        · rw [zgK]; exact Nat.lt_succ_of_le (Nat.le_add_right _ _)
        · rw [zgK, Nat.add_sub_cancel_left]; exact ht
      · rintro ⟨t, ht, h⟩
        obtain ⟨j, hj, ht⟩ := List.mem_flatMap.mp ht
        obtain ⟨t', ht1, rfl⟩ := List.mem_map.mp ht
        obtain ⟨u, v, rfl, rfl, h1⟩ := stars_iff.mp h
        rw [zgK, Nat.add_sub_cancel_left] at ht1
        exact ⟨u, v, rfl, (sp_ok hL' fun c hc => hw c (List.mem_append_right _ hc)).mpr ⟨t', ht1, h1⟩⟩
    · rw [Mt.one_iff h5]
      by_cases h2 : k = 2
      · subst h2
        rw [zdD]
        constructor
        · rintro ⟨c, v, rfl, hc, h⟩
          cases List.mem_singleton.mp (show c ∈ [47] from hc)
          obtain ⟨t, ht, h⟩ := (sp_ok hL' fun c hc => hw c (List.mem_cons_of_mem _ hc)).mp h
          rw [zcD, if_pos rfl, if_pos (Nat.succ_pos _)]
          exact ⟨2 :: t, List.mem_map.mpr ⟨t, ht, rfl⟩, .one (by decide) (by decide) h⟩
        · rintro ⟨t, ht, h⟩
          split at ht
          · obtain ⟨t', ht1, rfl⟩ := List.mem_map.mp ht
            obtain ⟨c, v, rfl, hc, h1⟩ := (Mn.one_iff (by decide)).mp h
            cases List.mem_singleton.mp (show c ∈ [47] from hc)
            rw [zcD, if_pos rfl] at ht1
            exact ⟨47, v, rfl, by decide, (sp_ok hL' fun c hc => hw c (List.mem_cons_of_mem _ hc)).mpr ⟨t', ht1, h1⟩⟩
          · cases ht
      · rw [zgJ h5 h2]
        have hk := hL k List.mem_cons_self
        constructor
        · rintro ⟨c, v, rfl, hc, h⟩
          obtain ⟨t, ht, h⟩ := (sp_ok hL' fun c hc => hw c (List.mem_cons_of_mem _ hc)).mp h
          rcases sets2a hk h5 h2 hc with q | ⟨rfl, q⟩
          · rw [zcD, if_neg (zgL k hk h5 h2 c q).2]
            exact ⟨k :: t, List.mem_append_left _ (List.mem_map.mpr ⟨t, ht, rfl⟩), .one h5 q h⟩
          · rw [zcD, if_pos rfl, if_pos ⟨q, Nat.succ_pos _⟩]
            exact ⟨2 :: t, List.mem_append_right _ (List.mem_map.mpr ⟨t, ht, rfl⟩), .one (by decide) (by decide) h⟩
        · rintro ⟨t, ht, h⟩
          rcases List.mem_append.mp ht with ht | ht
          · obtain ⟨t', ht1, rfl⟩ := List.mem_map.mp ht
            obtain ⟨c, v, rfl, hc, h1⟩ := (Mn.one_iff h5).mp h
            rw [zcD, if_neg (zgL k hk h5 h2 c hc).2] at ht1
            exact ⟨c, v, rfl, (zgL k hk h5 h2 c hc).1, (sp_ok hL' fun c hc => hw c (List.mem_cons_of_mem _ hc)).mpr ⟨t', ht1, h1⟩⟩
          · split at ht
            · rename_i q
              obtain ⟨t', ht1, rfl⟩ := List.mem_map.mp ht
              obtain ⟨c, v, rfl, hc, h1⟩ := (Mn.one_iff (by decide)).mp h
              cases List.mem_singleton.mp (show c ∈ [47] from hc)
              rw [zcD, if_pos rfl] at ht1
              exact ⟨47, v, rfl, sets2c q.1, (sp_ok hL' fun c hc => hw c (List.mem_cons_of_mem _ hc)).mpr ⟨t', ht1, h1⟩⟩
            · cases ht
set_option genInjectivity false in
structure SpT (L : List Nat) (s : Nat) (t : List Nat) : Prop where
  lt : ∀ k ∈ t, k < 7
  len : t.length ≤ L.length + 2 * s
  cnt : t.count 2 = s
theorem zfu : ∀ {j : Nat} {r : List Nat} {k : Nat}, k ∈ stars j r → k = 5 ∨ k = 2 ∨ k ∈ r
  | 0, r, k, h => (List.mem_cons.mp h).imp_right .inr
  | j + 1, r, k, h => by
    rcases List.mem_cons.mp h with h | h
    · exact .inl h
    · rcases List.mem_cons.mp h with h | h
      · exact .inr (.inl h)
      · exact zfu h
theorem zfv : ∀ {j : Nat} {r : List Nat}, (stars j r).length = 2 * j + 1 + r.length
  | 0, r => Nat.add_comm _ _
  | j + 1, r => by
    show (stars j r).length + 1 + 1 = _
    rw [zfv]; omega
theorem zfw : ∀ {j : Nat} {r : List Nat}, (stars j r).count 2 = j + r.count 2
  | 0, r => by show List.count 2 (5 :: r) = _; rw [List.count_cons_of_ne (by decide), Nat.zero_add]
  | j + 1, r => by
    show List.count 2 (5 :: 2 :: stars j r) = _
    rw [List.count_cons_of_ne (by decide), List.count_cons_self, zfw, Nat.add_right_comm]
theorem zc8 : ∀ {L : List Nat}, (∀ k ∈ L, k < 7) → ∀ {s : Nat} {t : List Nat}, t ∈ SP L s → SpT L s t
  | [], _, s, t, ht => by
    have ht : t ∈ if s = 0 then [[]] else [] := ht
    split at ht
    · rename_i h
      cases List.mem_singleton.mp ht
      exact ⟨(fun _ h => nomatch h), Nat.zero_le _, h.symm⟩
    · cases ht
  | k :: L, hL, s, t, ht => by
    have hL' : ∀ k ∈ L, k < 7 := fun j hj => hL j (List.mem_cons_of_mem _ hj)
    have slash : ∀ {t' : List Nat}, 0 < s → SpT L (s - 1) t' → SpT (k :: L) s (2 :: t') := fun h P => by
      obtain ⟨a, b, c⟩ := P
      refine ⟨fun j hj => (List.mem_cons.mp hj).elim (fun e => e ▸ (by decide)) (a j), ?_, ?_⟩
      · rw [List.length_cons, List.length_cons]; omega
      · rw [List.count_cons_self, c]; omega
    by_cases h5 : k = 5
    · subst h5
      rw [zdN] at ht
      obtain ⟨j, hj, ht⟩ := List.mem_flatMap.mp ht
      obtain ⟨t', ht1, rfl⟩ := List.mem_map.mp ht
      have hj := List.mem_range.mp hj
      obtain ⟨a, b, c⟩ := zc8 hL' ht1
      refine ⟨fun k hk => ?_, ?_, ?_⟩
      · rcases zfu hk with rfl | rfl | h
        · decide
        · decide
        · exact a k h
      · rw [zfv, List.length_cons]; omega
      · rw [zfw, c]; omega
    · by_cases h2 : k = 2
      · subst h2
        rw [zdD] at ht
        split at ht
        · rename_i h
          obtain ⟨t', ht1, rfl⟩ := List.mem_map.mp ht
          exact slash h (zc8 hL' ht1)
        · cases ht
      · rw [zgJ h5 h2] at ht
        rcases List.mem_append.mp ht with ht | ht
        · obtain ⟨t', ht1, rfl⟩ := List.mem_map.mp ht
          obtain ⟨a, b, c⟩ := zc8 hL' ht1
          refine ⟨fun j hj => (List.mem_cons.mp hj).elim (fun e => e ▸ hL k List.mem_cons_self) (a j), ?_, ?_⟩
          · rw [List.length_cons, List.length_cons]; omega
          · rw [List.count_cons_of_ne h2, c]
        · split at ht
          · rename_i h
            obtain ⟨t', ht1, rfl⟩ := List.mem_map.mp ht
            exact slash h.2 (zc8 hL' ht1)
          · cases ht
end Mine
end
section
open PySem PySem.StrLaws PySem.Builtin PySem.Builtin.Str
namespace Mine
section
variable {fns : Nat → Option Fn}
end
noncomputable def NameOK (w : List Nat) : Prop := w ≠ [] ∧ 47 ∉ w
noncomputable def txt : List (List Nat) → List Nat
  | [] => []
  | w :: ws => ws.foldl (fun p b => p ++ 47 :: b) w
theorem zdB {d : List (List Nat)} (h : d ≠ []) (w : List Nat) : txt (d ++ [w]) = txt d ++ 47 :: w := by
  cases d with
  | nil => exact absurd rfl h
  | cons a d =>
    show (d ++ [w]).foldl _ a = _
    rw [List.foldl_append]
    rfl
theorem txt_end : ∀ {d : List (List Nat)}, d ≠ [] → (∀ w ∈ d, NameOK w) → ∃ t c, txt d = t ++ [c] ∧ c ≠ 47 := by
  intro d h0 h
  rcases List.eq_nil_or_concat d with e | ⟨d', w, e⟩
  · exact absurd e h0
  · rw [List.concat_eq_append] at e
    subst e
    obtain ⟨w0, w1⟩ := h w (by simp)
    rcases List.eq_nil_or_concat w with e | ⟨w', c, e⟩
    · exact absurd e w0
    · rw [List.concat_eq_append] at e
      subst e
      have hc : c ≠ 47 := fun q => w1 (by rw [q]; simp)
      by_cases h1 : d' = []
      · subst h1
        exact ⟨w', c, rfl, hc⟩
      · exact ⟨txt d' ++ 47 :: w', c, by rw [zdB h1]; simp, hc⟩
section
variable {fns : Nat → Option Fn}
theorem zd2 : ∀ {bs : List (List Nat)} {p : List Nat}, p ≠ [] → p.getLast? ≠ some 47 → (∀ w ∈ bs, NameOK w) → joinP p bs = bs.foldl (fun p b => p ++ 47 :: b) p
  | [], _, _, _, _ => rfl
  | b :: bs, p, h0, h1, h => by
    obtain ⟨b0, b1⟩ := h b List.mem_cons_self
    have e : join1 p b = p ++ 47 :: b := by
      unfold join1
      rw [if_neg (by
        rintro (q | q)
        · exact b1 (List.mem_of_head? q)
        · exact h0 q), if_neg h1]
    show joinP (join1 p b) bs = _
    rw [e]
    refine zd2 (by simp) ?_ fun w hw => h w (List.mem_cons_of_mem _ hw)
    intro q
    rcases List.eq_nil_or_concat b with q2 | ⟨b', c, q2⟩
    · exact b0 q2
    · rw [List.concat_eq_append] at q2
      subst q2
      have e3 : (p ++ 47 :: (b' ++ [c])) = (p ++ 47 :: b') ++ [c] := by simp
      rw [e3, List.getLast?_append] at q
      have e4 : c = 47 := by simpa using q
      exact b1 (by rw [e4]; simp)
theorem zj0 (h2 : fns 2 = some fn_fspath) (h3 : fns 3 = some fn_get_sep) (h4 : fns 4 = some fn_join) (m : Nat) {w : List Nat} {bs : List (List Nat)} (hw : NameOK w) (h : ∀ w ∈ bs, NameOK w) (hl : w.length + lenS bs ≤ lim) (hn : bs.length < lim) :
    callF fns (m + 2) 4 ((w :: bs).map .str) = some (.str (txt (w :: bs))) := by
  have := join_ok h2 h3 h4 m hl hn
  rw [zd2 hw.1 (fun q => hw.2 (List.mem_of_getLast? q)) h] at this
  exact this
end
noncomputable def nD (n : List (List Nat)) : D := .list (n.map .str)
theorem zi0 {a b : List Nat} : PyData.eqv (D.str a).toPy (D.str b).toPy = decide (a = b) := by
  have h := fun (x y : PySem.Str) => (show PyData.eqv (.str x) (.str y) = (x == y) from by simp [PyData.eqv])
  show PyData.eqv (.str ⟨a.toArray⟩) (.str ⟨b.toArray⟩) = _
  rw [h]
  by_cases e : a = b
  · subst e; simp
  · rw [decide_eq_false e, beq_eq_false_iff_ne]
    intro q
    exact e (by simpa using q)
theorem zhb : ∀ {a b : List (List Nat)}, PyData.eqvAll (D.toPys (a.map .str)) (D.toPys (b.map .str)) = decide (a = b)
  | [], [] => rfl
  | [], _ :: _ => by simp [D.toPys, PyData.eqvAll]
  | _ :: _, [] => by simp [D.toPys, PyData.eqvAll]
  | x :: a, y :: b => by
    simp only [List.map_cons, D.toPys, PyData.eqvAll, zi0, zhb (a := a) (b := b)]
    by_cases h1 : x = y <;> by_cases h2 : a = b <;> simp [h1, h2]
theorem eqv_nD {a b : List (List Nat)} : PyData.eqv (nD a).toPy (nD b).toPy = decide (a = b) := by
  unfold nD D.toPy
  rw [PyData.eqv]
  exact zhb
theorem zim : ∀ {k : Nat} {l : List (List Nat)}, D.oks (k + 1) (l.map .str) = true
  | _, [] => rfl
  | k, s :: l => by
    rw [List.map_cons]
    unfold D.oks
    rw [zim]; rfl
theorem ok_nD {k : Nat} {n : List (List Nat)} : (nD n).ok (k + 2) = true := by
  unfold nD D.ok
  exact zim
theorem zgn {a b : List (List Nat)} : opF .eq [nD a, nD b] = some (.val (.bool (decide (a = b)))) := by
  have e : eqD (nD a) (nD b) = some (decide (a = b)) := by
    show (if ((nD a).ok 9 && (nD b).ok 9) = true then some (PyData.eqv (nD a).toPy (nD b).toPy) else none) = _
    rw [ok_nD, ok_nD, eqv_nD]; rfl
  show (eqD (nD a) (nD b)).map (fun x => R.val (.bool x)) = _
  rw [e]; rfl
end Mine
end
section
open PySem
namespace Mine
inductive Cl : List Nat → List (List Nat) → Prop
  | nil : Cl [] []
  | last {t : List Nat} : t ≠ [] → 2 ∉ t → Cl t [t]
  | slashes {n : Nat} : Cl (List.replicate (n + 1) 2) [List.replicate (n + 1) 2]
  | root {n : Nat} {b : List Nat} : b ≠ [] → 2 ∉ b → Cl (List.replicate (n + 1) 2 ++ b) [b, List.replicate (n + 1) 2]
  | step {a b : List Nat} {n : Nat} {out : List (List Nat)} : a ≠ [] → a.getLast? ≠ some 2 → 2 ∉ b → Cl a out → Cl (a ++ (List.replicate n 2 ++ 2 :: b)) (b :: out)
theorem zgP {n : Nat} {b : List Nat} : List.replicate n 2 ++ 2 :: b = List.replicate (n + 1) 2 ++ b := by
  rw [List.replicate_succ', List.append_assoc]; rfl
theorem zkq : ∀ (m : Nat) (a : List Nat), a.length = m → ∃ a' n, a = a' ++ List.replicate n 2 ∧ a'.getLast? ≠ some 2
  | 0, a, h => ⟨[], 0, List.length_eq_zero_iff.mp h, fun e => nomatch e⟩
  | m + 1, a, h => by
    rcases List.eq_nil_or_concat a with rfl | ⟨a', k, rfl⟩
    · cases h
    · rw [List.concat_eq_append] at h ⊢
      by_cases hk : k = 2
      · subst hk
        obtain ⟨x, n, e, hx⟩ := zkq m a' (by simpa using h)
        exact ⟨x, n + 1, by rw [e, List.append_assoc, ← List.replicate_succ'], hx⟩
      · exact ⟨a' ++ [k], 0, (List.append_nil _).symm, fun e => by rw [List.getLast?_append] at e; exact hk (by simpa using e)⟩
theorem last_of {c : Nat} {t : List Nat} (h : c ∈ t) : ∃ a b, t = a ++ c :: b ∧ c ∉ b := by
  obtain ⟨x, y, e, hx⟩ := List.eq_append_cons_of_mem (List.mem_reverse.mpr h)
  refine ⟨y.reverse, x.reverse, ?_, fun q => hx (List.mem_reverse.mp q)⟩
  have := congrArg List.reverse e
  rw [List.reverse_reverse] at this
  rw [this]; simp
theorem cl_ex : ∀ (m : Nat) (t : List Nat), t.length ≤ m → ∃ out, Cl t out
  | 0, t, h => ⟨[], by rw [List.length_eq_zero_iff.mp (Nat.le_zero.mp h)]; exact .nil⟩
  | m + 1, t, h => by
    by_cases h2 : 2 ∈ t
    · obtain ⟨a, b, rfl, hb⟩ := last_of h2
      obtain ⟨a', n, rfl, ha⟩ := zkq _ a rfl
      rw [List.append_assoc]
      by_cases h0 : a' = []
      · subst h0
        rw [List.nil_append, zgP]
        by_cases hb0 : b = []
        · subst hb0; rw [List.append_nil]; exact ⟨_, .slashes⟩
        · exact ⟨_, .root hb0 hb⟩
      · obtain ⟨out, hc⟩ := cl_ex m a' (by simp only [List.length_append, List.length_cons] at h; omega)
        exact ⟨_, .step h0 ha hb hc⟩
    · by_cases h0 : t = []
      · exact ⟨[], h0 ▸ .nil⟩
      · exact ⟨_, .last h0 h2⟩
theorem cnt0 {b : List Nat} (h : 2 ∉ b) : b.count 2 = 0 := List.count_eq_zero.mpr h
theorem zgw {n : Nat} {b : List Nat} (h : 2 ∉ b) : (List.replicate n 2 ++ 2 :: b).count 2 = n + 1 := by
  rw [zgP, List.count_append, List.count_replicate_self, cnt0 h]
theorem Cl.len {t : List Nat} {out : List (List Nat)} (h : Cl t out) : out.length ≤ t.count 2 + 1 := by
  induction h with
  | nil => exact Nat.zero_le _
  | last _ _ => exact Nat.le_add_left _ _
  | slashes => exact Nat.le_add_left _ _
  | root _ hb => rw [List.count_append, List.count_replicate_self]; exact Nat.succ_le_succ (Nat.le_trans (Nat.succ_le_succ (Nat.zero_le _)) (Nat.le_add_right _ _))
  | @step a b n out h0 ha hb _ ih =>
    rw [List.count_append, zgw hb, List.length_cons]
    exact Nat.succ_le_succ (Nat.le_trans ih (by rw [← Nat.add_assoc]; exact Nat.succ_le_succ (Nat.le_add_right _ _)))
theorem Cl.parts {t : List Nat} {out : List (List Nat)} (h : Cl t out) : ∀ o ∈ out, (∀ k ∈ o, k ∈ t) ∧ (o.length ≤ t.count 2 ∨ o.length + t.count 2 ≤ t.length) := by
  induction h with
  | nil => exact fun o h => nomatch h
  | @last t _ h2 => intro o ho; rw [List.mem_singleton.mp ho]; exact ⟨fun _ h => h, .inr (by rw [cnt0 h2]; exact Nat.le_refl _)⟩
  | @slashes n => intro o ho; rw [List.mem_singleton.mp ho]; exact ⟨fun _ h => h, .inl (by rw [List.count_replicate_self, List.length_replicate]; exact Nat.le_refl _)⟩
  | @root n b _ hb =>
    intro o ho
    rw [List.count_append, List.count_replicate_self, cnt0 hb, List.length_append, List.length_replicate]
    rcases List.mem_cons.mp ho with rfl | ho
    · exact ⟨fun _ h => List.mem_append_right _ h, .inr (by omega)⟩
    · rw [List.mem_singleton.mp ho]
      exact ⟨fun _ h => List.mem_append_left _ h, .inl (by rw [List.length_replicate]; exact Nat.le_refl _)⟩
  | @step a b n out h0 ha hb _ ih =>
    intro o ho
    have hle : a.count 2 ≤ a.length := List.count_le_length
    have e1 : (a ++ (List.replicate n 2 ++ 2 :: b)).length = a.length + (n + (b.length + 1)) := by simp
    rw [List.count_append, zgw hb, e1]
    rcases List.mem_cons.mp ho with rfl | ho
    · exact ⟨fun k hk => List.mem_append_right _ (List.mem_append_right _ (List.mem_cons_of_mem _ hk)), .inr (by omega)⟩
    · obtain ⟨p, q⟩ := ih o ho
      exact ⟨fun k hk => List.mem_append_left _ (p k hk), q.imp (fun h => Nat.le_trans h (Nat.le_add_right _ _)) fun h => by omega⟩
noncomputable def BN : List (List Nat) → List (List Nat) → Prop
  | [], [] => True
  | t :: ts, x :: xs => Mt (t.map (rq 7)) x ∧ BN ts xs
  | _, _ => False
theorem BN.len : ∀ {a b : List (List Nat)}, BN a b → a.length = b.length
  | [], [], _ => rfl
  | t :: ts, x :: xs, h => congrArg Nat.succ (BN.len (a := ts) (b := xs) h.2)
  | [], _ :: _, h => h.elim
  | _ :: _, [], h => h.elim
theorem Mn.app : ∀ {as bs w : List Nat}, Mn (as ++ bs) w ↔ ∃ u v, w = u ++ v ∧ Mn as u ∧ Mn bs v
  | [], bs, w => ⟨fun h => ⟨[], w, rfl, .nil, h⟩, fun ⟨u, v, e, h1, h2⟩ => by cases h1; exact e ▸ h2⟩
  | k :: as, bs, w => by
    by_cases hk : k = 5
    · subst hk
      rw [List.cons_append, Mn.star_iff]
      constructor
      · rintro ⟨u, v, rfl, h0, h⟩
        obtain ⟨x, y, rfl, h1, h2⟩ := Mn.app.mp h
        exact ⟨u ++ x, y, (List.append_assoc ..).symm, .star h0 h1, h2⟩
      · rintro ⟨u, v, rfl, h1, h2⟩
        obtain ⟨x, y, rfl, h0, h⟩ := Mn.star_iff.mp h1
        exact ⟨x, y ++ v, List.append_assoc .., h0, Mn.app.mpr ⟨y, v, rfl, h, h2⟩⟩
    · rw [List.cons_append, Mn.one_iff hk]
      constructor
      · rintro ⟨c, v, rfl, hc, h⟩
        obtain ⟨x, y, rfl, h1, h2⟩ := Mn.app.mp h
        exact ⟨c :: x, y, rfl, .one hk hc h1, h2⟩
      · rintro ⟨u, v, rfl, h1, h2⟩
        obtain ⟨c, y, rfl, hc, h⟩ := (Mn.one_iff hk).mp h1
        exact ⟨c, y ++ v, rfl, hc, Mn.app.mpr ⟨y, v, rfl, h, h2⟩⟩
theorem Mn.noSl {b v : List Nat} (hb : ∀ k ∈ b, k < 7) (h2 : 2 ∉ b) (h : Mn b v) : 47 ∉ v := by
  induction h with
  | nil => exact fun h => nomatch h
  | star hu _ ih => exact fun q => (List.mem_append.mp q).elim hu (ih (fun k hk => hb k (List.mem_cons_of_mem _ hk)) fun q => h2 (List.mem_cons_of_mem _ q))
  | @one k c as v h5 hc _ ih =>
    intro q
    rcases List.mem_cons.mp q with q | q
    · exact (zgL k (hb k List.mem_cons_self) h5 (fun e => h2 (e ▸ List.mem_cons_self)) c hc).2 q.symm
    · exact ih (fun k hk => hb k (List.mem_cons_of_mem _ hk)) (fun q => h2 (List.mem_cons_of_mem _ q)) q
theorem rq7a : ∀ k, k < 7 → k ≠ 2 → ∀ c ∈ nC k, c ∈ aC (rq 7 k) := by decide
theorem rq7b : ∀ k, k < 7 → k ≠ 2 → ∀ c ∈ aC (rq 7 k), c = 47 ∨ c ∈ nC k := by decide
theorem rq7_5 : ∀ k, k < 7 → k ≠ 5 → rq 7 k ≠ 5 := by decide
theorem mm2 : ∀ {b x : List Nat}, (∀ k ∈ b, k < 7) → 2 ∉ b → 47 ∉ x → (Mn b x ↔ Mt (b.map (rq 7)) x)
  | [], x, _, _, _ => by rw [Mn.nil_iff]; exact Mt.nil_iff.symm
  | k :: b, x, hb, h2, hx => by
    have hb' : ∀ k ∈ b, k < 7 := fun j hj => hb j (List.mem_cons_of_mem _ hj)
    have h2' : 2 ∉ b := fun q => h2 (List.mem_cons_of_mem _ q)
    have hk := hb k List.mem_cons_self
    have hk2 : k ≠ 2 := fun e => h2 (e ▸ List.mem_cons_self)
    by_cases h5 : k = 5
    · subst h5
      show _ ↔ Mt (5 :: b.map (rq 7)) x
      rw [Mn.star_iff, Mt.star_iff]
      constructor
      · rintro ⟨u, v, rfl, _, h⟩
        exact ⟨u, v, rfl, (mm2 hb' h2' fun q => hx (List.mem_append_right _ q)).mp h⟩
      · rintro ⟨u, v, rfl, h⟩
        exact ⟨u, v, rfl, fun q => hx (List.mem_append_left _ q), (mm2 hb' h2' fun q => hx (List.mem_append_right _ q)).mpr h⟩
    · rw [List.map_cons, Mn.one_iff h5, Mt.one_iff (rq7_5 k hk h5)]
      constructor
      · rintro ⟨c, v, rfl, hc, h⟩
        exact ⟨c, v, rfl, rq7a k hk hk2 c hc, (mm2 hb' h2' fun q => hx (List.mem_cons_of_mem _ q)).mp h⟩
      · rintro ⟨c, v, rfl, hc, h⟩
        exact ⟨c, v, rfl, (rq7b k hk hk2 c hc).resolve_left fun e => hx (e ▸ List.mem_cons_self), (mm2 hb' h2' fun q => hx (List.mem_cons_of_mem _ q)).mpr h⟩
theorem zg1 : ∀ {a b x y : List Nat} {c : Nat}, a ++ c :: x = b ++ c :: y → c ∉ x → c ∉ y → a = b ∧ x = y
  | [], [], x, y, c, e, _, _ => ⟨rfl, (List.cons.inj e).2⟩
  | [], d :: b, x, y, c, e, hx, _ => by
    obtain ⟨rfl, e2⟩ := List.cons.inj e
    exact absurd (show c ∈ x by rw [e2]; exact List.mem_append_right _ List.mem_cons_self) hx
  | d :: a, [], x, y, c, e, _, hy => by
    obtain ⟨rfl, e2⟩ := List.cons.inj e
    exact absurd (show d ∈ y by rw [← e2]; exact List.mem_append_right _ List.mem_cons_self) hy
  | d :: a, d' :: b, x, y, c, e, hx, hy => by
    obtain ⟨e1, e2⟩ := List.cons.inj e
    obtain ⟨e3, h⟩ := zg1 e2 hx hy
    exact ⟨by rw [e1, e3], h⟩
theorem mn_snoc {X b u y : List Nat} (hb : ∀ k ∈ b, k < 7) (h2 : 2 ∉ b) (hy : 47 ∉ y) : Mn (X ++ 2 :: b) (u ++ 47 :: y) ↔ Mn X u ∧ Mn b y := by
  rw [Mn.app]
  constructor
  · rintro ⟨p, q, e, h1, h3⟩
    obtain ⟨c, v, rfl, hc, h4⟩ := (Mn.one_iff (by decide)).mp h3
    cases List.mem_singleton.mp (show c ∈ [47] from hc)
    obtain ⟨rfl, rfl⟩ := zg1 e hy (h4.noSl hb h2)
    exact ⟨h1, h4⟩
  · rintro ⟨h1, h3⟩
    exact ⟨u, _, rfl, h1, .one (by decide) (by decide) h3⟩
theorem txt_pre (w : List Nat) : ∀ ws : List (List Nat), ∃ u, txt (w :: ws) = w ++ u := by
  intro ws
  induction ws generalizing w with
  | nil => exact ⟨[], (List.append_nil _).symm⟩
  | cons x ws ih =>
    obtain ⟨u, e⟩ := ih (w ++ 47 :: x)
    exact ⟨47 :: x ++ u, by rw [show txt (w :: x :: ws) = txt ((w ++ 47 :: x) :: ws) from rfl, e, List.append_assoc]⟩
theorem zgZ {r : List Nat} {names : List (List Nat)} (h0 : names ≠ []) (hn : ∀ x ∈ names, NameOK x) : ¬ Mn (2 :: r) (txt names) := fun h => by
  obtain ⟨c, v, e, hc, _⟩ := (Mn.one_iff (by decide)).mp h
  cases List.mem_singleton.mp (show c ∈ [47] from hc)
  cases names with
  | nil => exact h0 rfl
  | cons x ws =>
    obtain ⟨u, e2⟩ := txt_pre x ws
    obtain ⟨p, q⟩ := hn x List.mem_cons_self
    cases x with
    | nil => exact p rfl
    | cons d x =>
      rw [e2] at e
      exact q ((List.cons.inj e).1 ▸ List.mem_cons_self)
theorem bn_ok {t : List Nat} {out : List (List Nat)} (h : Cl t out) : ∀ {names : List (List Nat)}, (∀ k ∈ t, k < 7) → names ≠ [] → (∀ x ∈ names, NameOK x) → t.count 2 + 1 = names.length → (BN out names.reverse ↔ Mn t (txt names)) := by
  have one : ∀ {names : List (List Nat)}, names.length = 1 → ∃ x, names = [x] := fun h => List.length_eq_one_iff.mp h
  induction h with
  | nil =>
    intro names _ _ hn hl
    obtain ⟨x, rfl⟩ := one hl.symm
    exact ⟨fun h => h.elim, fun h => absurd (Mn.nil_iff.mp h) (hn x List.mem_cons_self).1⟩
  | @last t _ h2 =>
    intro names ht _ hn hl
    rw [cnt0 h2] at hl
    obtain ⟨x, rfl⟩ := one hl.symm
    have := mm2 ht h2 (hn x List.mem_cons_self).2
    exact ⟨fun h => this.mpr h.1, fun h => ⟨this.mp h, trivial⟩⟩
  | @slashes n =>
    intro names _ h0 hn hl
    rw [List.count_replicate_self] at hl
    refine ⟨fun h => ?_, fun h => absurd h (zgZ h0 hn)⟩
    have := h.len
    rw [List.length_reverse, ← hl] at this
    simp at this
  | @root n b hb0 hb =>
    intro names _ h0 hn hl
    rw [List.count_append, List.count_replicate_self, cnt0 hb] at hl
    refine ⟨fun h => ?_, fun h => absurd h (zgZ h0 hn)⟩
    have e := h.len
    rw [List.length_reverse, ← hl] at e
    have e0 : n = 0 := by simpa using e
    subst e0
    rcases List.eq_nil_or_concat names with q | ⟨ns, y, q⟩
    · exact absurd q h0
    rw [List.concat_eq_append] at q
    subst q
    obtain ⟨x, rfl⟩ := one (names := ns) (by simpa using hl.symm)
    have hm : Mt [2] x := h.2.1
    obtain ⟨c, v, e, hc, _⟩ := (Mt.one_iff (by decide)).mp hm
    cases List.mem_singleton.mp (show c ∈ [47] from hc)
    exact absurd (show 47 ∈ x by rw [e]; exact List.mem_cons_self) (hn x List.mem_cons_self).2
  | @step a b n out ha0 ha hb hc ih =>
    intro names ht h0 hn hl
    rcases List.eq_nil_or_concat names with q | ⟨ns, y, q⟩
    · exact absurd q h0
    rw [List.concat_eq_append] at q
    subst q
    rw [List.count_append, zgw hb, List.length_append, List.length_singleton] at hl
    have hl : a.count 2 + (n + 1) = ns.length := Nat.succ.inj hl
    have hns : ns ≠ [] := fun e => by rw [e] at hl; exact absurd hl (Nat.succ_ne_zero _)
    have hn' : ∀ x ∈ ns, NameOK x := fun x hx => hn x (List.mem_append_left _ hx)
    have hy := hn y (List.mem_append_right _ List.mem_cons_self)
    have hb' : ∀ k ∈ b, k < 7 := fun k hk => ht k (List.mem_append_right _ (List.mem_append_right _ (List.mem_cons_of_mem _ hk)))
    rw [List.reverse_append, zdB hns, ← List.append_assoc, mn_snoc hb' hb hy.2, mm2 hb' hb hy.2]
    show (Mt _ y ∧ BN out ns.reverse) ↔ _
    cases n with
    | zero =>
      rw [List.replicate_zero, List.append_nil, ih (fun k hk => ht k (List.mem_append_left _ hk)) hns hn' hl]
      exact And.comm
    | succ n =>
      refine ⟨fun h => ?_, fun h => ?_⟩
      · have e1 := h.2.len
        have e2 := hc.len
        rw [List.length_reverse] at e1
        omega
      · exfalso
        rw [List.replicate_succ', ← List.append_assoc] at h
        obtain ⟨p, q, e, _, h3⟩ := Mn.app.mp h.1
        obtain ⟨c, v, rfl, hc, h4⟩ := (Mn.one_iff (by decide)).mp h3
        cases List.mem_singleton.mp (show c ∈ [47] from hc)
        cases Mn.nil_iff.mp h4
        obtain ⟨z, d, e2, hd⟩ := txt_end hns hn'
        rw [e2] at e
        have := congrArg List.getLast? e
        rw [List.getLast?_append, List.getLast?_append] at this
        exact hd (by simpa using this)
noncomputable def clB : S := (.seq (.append 1 (.var 3)) (.seq (.assign 0 (.var 2)) (.seq (.assign2 2 3 (.call 5 (.cons (.var 0) .nil))) .skip)))
noncomputable def clC : X := (.op .ne (.cons (.var 2) (.cons (.var 0) .nil)))
theorem zdi {a b : List Nat} : tx (a ++ b) = tx a ++ tx b := List.flatMap_append
theorem zdI {n : Nat} : tx (List.replicate n 2) = List.replicate n 47 := by
  induction n with
  | zero => rfl
  | succ n ih => rw [List.replicate_succ, List.replicate_succ, ← ih]; rfl
theorem tx_no {b : List Nat} (hb : ∀ k ∈ b, k < 7) (h : 2 ∉ b) : 47 ∉ tx b := fun q => by
  obtain ⟨k, hk, hc⟩ := List.mem_flatMap.mp q
  exact (show ∀ k, k < 7 → k ≠ 2 → 47 ∉ aT k by decide) k (hb k hk) (fun e => h (e ▸ hk)) hc
theorem tx_ne {b : List Nat} (hb : ∀ k ∈ b, k < 7) (h : b ≠ []) : tx b ≠ [] := by
  cases b with
  | nil => exact absurd rfl h
  | cons k b => exact fun e => (show ∀ k, k < 7 → aT k ≠ [] by decide) k (hb k List.mem_cons_self) (List.append_eq_nil_iff.mp e).1
theorem tx_end {a : List Nat} (ha : ∀ k ∈ a, k < 7) (h0 : a ≠ []) (h : a.getLast? ≠ some 2) : ∃ t c, tx a = t ++ [c] ∧ c ≠ 47 := by
  rcases List.eq_nil_or_concat a with q | ⟨a', k, rfl⟩
  · exact absurd q h0
  rw [List.concat_eq_append] at h ha ⊢
  have hk : k ≠ 2 := fun e => h (by rw [e, List.getLast?_append]; rfl)
  have e : aT k = (aT k).dropLast ++ [(aT k).getLast?.getD 0] ∧ (aT k).getLast?.getD 0 ≠ 47 := (show ∀ k, k < 7 → k ≠ 2 → aT k = (aT k).dropLast ++ [(aT k).getLast?.getD 0] ∧ (aT k).getLast?.getD 0 ≠ 47 by decide) k (ha k (List.mem_append_right _ List.mem_cons_self)) hk
  refine ⟨tx a' ++ (aT k).dropLast, (aT k).getLast?.getD 0, ?_, e.2⟩
  rw [zdi, show tx [k] = aT k from List.append_nil _, List.append_assoc, ← e.1]
theorem zf8 {t : List Nat} {c n : Nat} (hc : c ≠ 47) : strip0 (t ++ [c] ++ List.replicate n 47 ++ [47]) = t ++ [c] := by
  rw [List.append_assoc, ← List.replicate_succ']
  unfold strip0
  rw [if_neg]
  · rw [List.reverse_append, List.reverse_replicate, List.dropWhile_append_of_pos (fun a h => by rw [List.eq_of_mem_replicate h]; rfl), List.reverse_append]
    have hcb : (c == 47) = false := by simp [hc]
    simp [List.dropWhile_cons, hcb]
  · intro q
    have : c ∈ t ++ [c] ++ List.replicate (n + 1) 47 := by simp
    rw [q] at this
    exact hc (List.eq_of_mem_replicate this)
theorem zhk {n : Nat} : strip0 (List.replicate n 47 ++ [47]) = List.replicate (n + 1) 47 := by
  rw [← List.replicate_succ']
  unfold strip0
  rw [if_pos (by rw [List.length_replicate])]
section
variable (m : Nat)
theorem zh6 {a b : List Nat} {n : Nat} (ha : ∀ k ∈ a, k < 7) (h0 : a ≠ []) (h : a.getLast? ≠ some 2) (hb : ∀ k ∈ b, k < 7) (h2 : 2 ∉ b) (hl : (a ++ (List.replicate n 2 ++ 2 :: b)).length ≤ 100) :
    callF fns02 (m + 2) 5 [.str (tx (a ++ (List.replicate n 2 ++ 2 :: b)))] = some (.tup [.str (tx a), .str (tx b)]) := by
  obtain ⟨t, c, e, hc⟩ := tx_end ha h0 h
  have hx : (tx a).length ≤ 6 * a.length := zgD ha
  have e2 : tx (a ++ (List.replicate n 2 ++ 2 :: b)) = (tx a ++ List.replicate n 47) ++ 47 :: tx b := by
    rw [zdi, zdi, zdI, List.append_assoc]; rfl
  have := zgI (fns := fns02) rfl rfl rfl m (x := tx a ++ List.replicate n 47) (tx_no hb h2) (by
    simp only [List.length_append, List.length_replicate, List.length_cons] at hl ⊢
    omega)
  rw [e2, this, e, zf8 hc]
theorem zdO {n : Nat} {b : List Nat} (hb : ∀ k ∈ b, k < 7) (h2 : 2 ∉ b) (hl : n ≤ 100) : callF fns02 (m + 2) 5 [.str (List.replicate (n + 1) 47 ++ tx b)] = some (.tup [.str (List.replicate (n + 1) 47), .str (tx b)]) := by
  have := zgI (fns := fns02) rfl rfl rfl m (x := List.replicate n 47) (tx_no hb h2) (by rw [List.length_replicate]; exact Nat.lt_of_le_of_lt hl (by decide))
  rw [zhk] at this
  rw [← this, List.replicate_succ', List.append_assoc]; rfl
theorem sp_no {b : List Nat} (hb : ∀ k ∈ b, k < 7) (h2 : 2 ∉ b) : callF fns02 (m + 2) 5 [.str (tx b)] = some (.tup [.str [], .str (tx b)]) := zjv rfl rfl rfl m (tx_no hb h2)
theorem cl_turn {cf : CfT} {x hd tl h2 t2 : List Nat} {pre : List D} (h : cf 5 [.str hd] = some (.tup [.str h2, .str t2])) (hp : pre.length < lim) :
    ex cf clB [.val (.str x), .own pre, .val (.str hd), .val (.str tl)] = some ([.val (.str hd), .own (pre ++ [.str tl]), .val (.str h2), .val (.str t2)], .next) := by
  unfold clB
  exact R_seq (za0 rfl rfl hp rfl) (zaf (R_seq (zak rfl rfl) (zaf (R_seq (zaR (E_of (zb3 rfl rfl h) rfl) rfl) (zaf zan)))))
theorem zja {cf : CfT} {x hd tl : List Nat} {pre : List D} : evT cf clC [.val (.str x), .own pre, .val (.str hd), .val (.str tl)] = some (!decide (hd = x)) := by
  unfold clC
  exact T_of (V_op2 rfl rfl (ne_str _ _))
noncomputable def outD (out : List (List Nat)) : List D := out.map fun o => .str (tx o)
inductive ClE (out : List (List Nat)) (pre : List D) : Option (List Slot × Out) → Prop
  | mk {e : List Nat} {q : List D} {x y : Slot} : (if e = [] then q else q ++ [.str e]) = outD out → ClE out pre (some ([.val (.str e), .own (pre ++ q), x, y], .next))
theorem zfb {cf : CfT} {out : List (List Nat)} {pre : List D} {e tl : List Nat} {fuel : Nat} (q : List D) (h : (if e = [] then q else q ++ [.str e]) = outD out) :
    ClE out pre (whileGo (evT cf clC) (ex cf clB) (fuel + 1) [.val (.str e), .own (pre ++ q), .val (.str e), .val (.str tl)]) := by
  rw [zaL (t := false) (by rw [zja, decide_eq_true rfl]; rfl) zbB]
  exact .mk h
theorem tx_long {a b : List Nat} {n : Nat} : tx a ≠ tx (a ++ (List.replicate n 2 ++ 2 :: b)) := fun e => by
  rw [zdi] at e
  have := congrArg List.length e
  rw [List.length_append, zdi, List.length_append] at this
  have h2 : (tx (2 :: b)).length = 1 + (tx b).length := by show (47 :: tx b).length = _; rw [List.length_cons, Nat.add_comm]
  omega
theorem zhe {a : List Nat} {out : List (List Nat)} (hc : Cl a out) (ha7 : ∀ k ∈ a, k < 7) (hal : a.length ≤ 100) : ∃ hd tl, callF fns02 (m + 2) 5 [.str (tx a)] = some (.tup [.str hd, .str tl]) := by
  have no := fun {x : Nat} (h : x ∈ ([] : List Nat)) => (nomatch h : False)
  cases hc with
  | nil => exact ⟨_, _, sp_no m (b := []) (fun _ h => (no h).elim) no⟩
  | last _ q => exact ⟨_, _, sp_no m ha7 q⟩
  | slashes =>
    rw [List.length_replicate] at hal
    have := zdO m (b := []) (fun _ h => (no h).elim) no (Nat.le_of_succ_le hal)
    rw [show tx [] = [] from rfl, List.append_nil, ← zdI] at this
    exact ⟨_, _, this⟩
  | root q q2 => exact ⟨_, _, by rw [zdi, zdI]; exact zdO m (fun k hk => ha7 k (List.mem_append_right _ hk)) q2 (by rw [List.length_append, List.length_replicate] at hal; exact Nat.le_of_succ_le (Nat.le_trans (Nat.le_add_right _ _) hal))⟩
  | step q0 q1 q2 _ => exact ⟨_, _, zh6 m (fun k hk => ha7 k (List.mem_append_left _ hk)) q0 q1 (fun k hk => ha7 k (List.mem_append_right _ (List.mem_append_right _ (List.mem_cons_of_mem _ hk)))) q2 hal⟩
theorem cl_loop {t : List Nat} {out : List (List Nat)} (h : Cl t out) : ∀ {pre : List D} {fuel : Nat} {hd tl : List Nat}, (∀ k ∈ t, k < 7) → t.length ≤ 100 → pre.length + out.length ≤ 1000 → out.length ≤ fuel → callF fns02 (m + 2) 5 [.str (tx t)] = some (.tup [.str hd, .str tl]) →
    ClE out pre (whileGo (evT (callF fns02 (m + 2)) clC) (ex (callF fns02 (m + 2)) clB) (fuel + 1) [.val (.str (tx t)), .own pre, .val (.str hd), .val (.str tl)]) := by
  have go : ∀ {out : List (List Nat)} {pre : List D} {fuel : Nat} {x hd tl h2 t2 : List Nat}, hd ≠ x → callF fns02 (m + 2) 5 [.str hd] = some (.tup [.str h2, .str t2]) → pre.length < 1000 →
      ClE out pre (whileGo (evT (callF fns02 (m + 2)) clC) (ex (callF fns02 (m + 2)) clB) (fuel + 1) [.val (.str hd), .own (pre ++ [.str tl]), .val (.str h2), .val (.str t2)]) →
      ClE out pre (whileGo (evT (callF fns02 (m + 2)) clC) (ex (callF fns02 (m + 2)) clB) (fuel + 1 + 1) [.val (.str x), .own pre, .val (.str hd), .val (.str tl)]) := fun hne hs hp k => by
    rw [zaL (t := true) (by rw [zja, decide_eq_false hne]; rfl) (R_wGo (cl_turn hs (Nat.lt_trans hp (by decide))) (zbA rfl))]
    exact k
  have nil_ : callF fns02 (m + 2) 5 [.str []] = some (.tup [.str [], .str []]) := sp_no m (b := []) (fun _ h => nomatch h) (fun h => nomatch h)
  induction h with
  | nil =>
    intro pre fuel hd tl _ _ _ _ he
    cases nil_.symm.trans (show callF fns02 (m + 2) 5 [.str []] = _ from he)
    have := zfb (cf := callF fns02 (m + 2)) (out := []) (pre := pre) (e := []) (tl := []) (fuel := fuel) [] rfl
    rw [List.append_nil] at this
    exact this
  | @last t h0 h2 =>
    intro pre fuel hd tl ht _ hl hf he
    cases (sp_no m ht h2).symm.trans he
    obtain ⟨fuel, rfl⟩ : ∃ f, fuel = f + 1 := ⟨fuel - 1, (Nat.sub_add_cancel hf).symm⟩
    exact go (fun e => tx_ne ht h0 e.symm) nil_ (Nat.lt_of_lt_of_le (Nat.lt_succ_self _) hl) (zfb [.str (tx t)] rfl)
  | @slashes n =>
    intro pre fuel hd tl ht hn hl hf he
    rw [List.length_replicate] at hn
    have e1 := zdO m (n := n) (b := []) (fun _ h => nomatch h) (fun h => nomatch h) (Nat.le_of_succ_le hn)
    rw [zdI] at he ⊢
    rw [show tx [] = [] from rfl, List.append_nil] at e1
    cases e1.symm.trans he
    have := zfb (cf := callF fns02 (m + 2)) (out := [List.replicate (n + 1) 2]) (pre := pre) (e := List.replicate (n + 1) 47) (tl := []) (fuel := fuel) [] (by rw [if_neg (by rw [List.replicate_succ]; exact fun e => nomatch e)]; unfold outD; rw [List.map_cons, zdI]; rfl)
    rwa [List.append_nil] at this
  | @root n b h0 h2 =>
    intro pre fuel hd tl ht hn hl hf he
    have hb : ∀ k ∈ b, k < 7 := fun k hk => ht k (List.mem_append_right _ hk)
    rw [List.length_append, List.length_replicate] at hn
    have hn' : n ≤ 100 := Nat.le_trans (Nat.le_succ n) (Nat.le_trans (Nat.le_add_right _ _) hn)
    have e1 := zdO m (n := n) hb h2 hn'
    have e2 := zdO m (n := n) (b := []) (fun _ h => nomatch h) (fun h => nomatch h) hn'
    rw [show tx [] = [] from rfl, List.append_nil] at e2
    rw [zdi, zdI] at he ⊢
    cases e1.symm.trans he
    obtain ⟨fuel, rfl⟩ : ∃ f, fuel = f + 1 := ⟨fuel - 1, (Nat.sub_add_cancel (Nat.le_trans (show 1 ≤ 2 by decide) hf)).symm⟩
    refine go (fun e => tx_ne hb h0 ?_) e2 (Nat.lt_of_lt_of_le (Nat.lt_add_of_pos_right (show 0 < 2 by decide)) hl) (zfb [.str (tx b)] ?_)
    · have := congrArg List.length e
      rw [List.length_append] at this
      exact List.length_eq_zero_iff.mp (Nat.left_eq_add.mp this)
    · rw [if_neg (by rw [List.replicate_succ]; exact fun e => nomatch e)]
      unfold outD
      rw [List.map_cons, List.map_cons, zdI]; rfl
  | @step a b n out h0 ha h2 hc ih =>
    intro pre fuel hd tl ht hn hl hf he
    have ha7 : ∀ k ∈ a, k < 7 := fun k hk => ht k (List.mem_append_left _ hk)
    have hb : ∀ k ∈ b, k < 7 := fun k hk => ht k (List.mem_append_right _ (List.mem_append_right _ (List.mem_cons_of_mem _ hk)))
    cases (zh6 m ha7 h0 ha hb h2 hn).symm.trans he
    obtain ⟨fuel, rfl⟩ : ∃ f, fuel = f + 1 := ⟨fuel - 1, (Nat.sub_add_cancel (Nat.le_trans (Nat.succ_le_succ (Nat.zero_le _)) hf)).symm⟩
    rw [List.length_cons] at hl hf
    have hal : a.length ≤ 100 := Nat.le_trans (by rw [List.length_append]; exact Nat.le_add_right _ _) hn
    obtain ⟨hd, tl, e⟩ := zhe m hc ha7 hal
    refine go tx_long e (by omega) ?_
    have := ih (pre := pre ++ [.str (tx b)]) (fuel := fuel) ha7 hal (by rw [List.length_append, List.length_singleton]; omega) (Nat.le_of_succ_le_succ hf) e
    generalize whileGo _ _ _ _ = res at this ⊢
    cases this with
    | @mk e' q x y hq =>
      rw [List.append_assoc]
      refine .mk ?_
      show _ = .str (tx b) :: outD out
      rw [← hq]
      split <;> rfl
theorem zkC {t : List Nat} {out : List (List Nat)} (h : Cl t out) (ht : ∀ k ∈ t, k < 7) (hl : t.length ≤ 100) (ho : out.length ≤ 100) :
    callF fns02 (m + 3) 20 [.str (tx t)] = some (.list (outD out)) := by
  obtain ⟨hd, tl, hs⟩ := zhe m h ht hl
  refine zct (fn := fn_law_climb) rfl (ρ := [.val (.str (tx t)), .unset, .unset, .unset]) rfl ?_
  show ∃ ρ', ex (callF fns02 (m + 2)) s_law_climb _ = _
  have hw := cl_loop m h (pre := []) (fuel := 99999) ht hl (Nat.le_trans (Nat.add_le_add_left ho 0) (by decide)) (Nat.le_trans ho (by decide)) hs
  generalize hr : whileGo _ _ _ _ = res at hw
  cases hw with
  | @mk e q x y hq =>
    unfold clB clC at hr
    unfold s_law_climb
    refine ⟨_, R_seq (zaF (l := []) rfl rfl rfl) (zaf (R_seq (zaR (E_of (zb3 rfl rfl hs) rfl) rfl) (zaf (R_seq (zbz hr) (zaf (R_seq (o := .next) (ρ₁ := [.val (.str e), .own (outD out), x, y]) ?_ (zaf (R_seq (R_seq (R_fz rfl rfl) (zaf (R_ret rfl))) zai))))))))⟩
    by_cases he : e = []
    · subst he
      rw [if_pos rfl] at hq
      subst hq
      exact R_ite (t := false) (T_of (V_op2 rfl rfl (ne_str _ _))) (R_ff zan)
    · rw [if_neg he] at hq
      rw [← hq]
      refine R_ite (t := true) (T_of (V_op2 rfl rfl ((ne_str _ _).trans (by rw [decide_eq_false he]; rfl)))) (R_tt (R_seq (za0 rfl rfl ?_ rfl) (zaf zan)))
      have := congrArg List.length hq
      unfold outD at this
      rw [List.length_append, List.length_map] at this
      show ([] ++ q).length < 1000000
      rw [List.nil_append]
      simp only [List.length_singleton] at this
      omega
end
end Mine
end
section
open PySem
noncomputable section
namespace Mine
noncomputable def bnB : S := (.seq (guard (cpreP cp02 (.op .index (.cons (.var 4) (.cons (.var 5) .nil))) 2 3)) (.seq (.ite (.not (.call 15 (.cons (tcall cp02 (.op .index (.cons (.var 4) (.cons (.var 5) .nil))) 2) (.cons (.var 2) (.cons (.op .index (.cons (.var 1) (.cons (.var 5) .nil))) .nil))))) (.seq (.ret (.const (.bool false))) .skip) .skip) .skip))
noncomputable def strsD (l : List (List Nat)) : D := .list (l.map .str)
noncomputable def bnS (text : D) (out names : List (List Nat)) (x : Slot) : List Slot := [.val text, .val (strsD names), .val (.tok 0), .val (.tok 2), .val (.list (outD out)), x]
section
variable (m : Nat) {out names : List (List Nat)} {text : D}
theorem at_out {o1 o2 : List (List Nat)} {o : List Nat} : (outD (o1 ++ o :: o2))[o1.length]? = some (.str (tx o)) := by
  unfold outD
  rw [List.getElem?_map, List.getElem?_append_right (Nat.le_refl _), Nat.sub_self]; rfl
theorem at_strs {o1 o2 : List (List Nat)} {o : List Nat} : ((o1 ++ o :: o2).map D.str)[o1.length]? = some (.str o) := by
  rw [List.getElem?_map, List.getElem?_append_right (Nat.le_refl _), Nat.sub_self]; rfl
theorem bn_turn {o1 o2 n1 n2 : List (List Nat)} {o x : List Nat} (hl : o1.length = n1.length) (h1 : o1.length ≤ 100) (ho : ∀ k ∈ o, k < 7) (h7 : o.length ≤ 7) (hx : ∀ c ∈ x, c ∈ sg2) (hx2 : x.length ≤ 100) :
    ∃ b : Bool, (b = true ↔ Mt (o.map (rq 7)) x) ∧ ex (callF fns02 (m + 3)) bnB (bnS text (o1 ++ o :: o2) (n1 ++ x :: n2) (.val (nI o1.length))) = some (bnS text (o1 ++ o :: o2) (n1 ++ x :: n2) (.val (nI o1.length)), if b then .next else .ret (.bool false)) := by
  obtain ⟨b, e, hb⟩ := tt2 (m + 1) (.inr rfl) ho hx hx2
  have et := zfn (m + 1) (.inr rfl) ho (Nat.le_trans h7 (by decide))
  have ea := zfn (m + 1) (q := 7) (.inr rfl) (as := [0]) (by decide) (by decide)
  have hk : ev (callF fns02 (m + 3)) (.op .index (.cons (.var 4) (.cons (.var 5) .nil))) (bnS text (o1 ++ o :: o2) (n1 ++ x :: n2) (.val (nI o1.length))) = some [.val (.str (tx o))] :=
    V_op2 rfl rfl (zbE at_out (Nat.le_trans h1 (by decide)))
  have hn : ev (callF fns02 (m + 3)) (.op .index (.cons (.var 1) (.cons (.var 5) .nil))) (bnS text (o1 ++ o :: o2) (n1 ++ x :: n2) (.val (nI o1.length))) = some [.val (.str x)] :=
    V_op2 rfl rfl (zbE (hl ▸ at_strs) (Nat.le_trans h1 (by decide)))
  have ht : ev (callF fns02 (m + 3)) (tcall cp02 (.op .index (.cons (.var 4) (.cons (.var 5) .nil))) 2) (bnS text (o1 ++ o :: o2) (n1 ++ x :: n2) (.val (nI o1.length))) = some [.val (.list ((mg (o.map (rq 7))).map aP))] :=
    zb3 (zao hk (zao rfl (zao rfl rfl))) rfl et
  refine ⟨b, hb, ?_⟩
  unfold bnB
  refine R_seq (zj8 ⟨tx o, ⟨rfl, rfl, ?_, hk, zgM ho h7⟩, _, ht⟩) (zaf (R_seq (ρ₁ := bnS text (o1 ++ o :: o2) (n1 ++ x :: n2) (.val (nI o1.length))) (o := if b then .next else .ret (.bool false)) (R_ite (t := !b) (T_of (V_not (zb3 (zao ht (zao rfl (zao hn rfl))) rfl e))) ?_) ?_))
  · exact (show callF fns02 (m + 3) 1 [.str [97], .tok 0, .str cp02.qm] = _ from ea) ▸ rfl
  · cases b with
    | true => exact R_ff zan
    | false => exact R_tt (R_seq (R_ret rfl) zai)
  · cases b with
    | true => exact zaf zan
    | false => exact zai
theorem zje : ∀ {o2 n2 o1 n1 : List (List Nat)} {y : Slot}, o1.length = n1.length → o2.length = n2.length → o1.length + o2.length ≤ 100 → (∀ o ∈ o2, (∀ k ∈ o, k < 7) ∧ o.length ≤ 7) → (∀ x ∈ n2, (∀ c ∈ x, c ∈ sg2) ∧ x.length ≤ 100) →
    ∃ b : Bool, (b = true ↔ BN o2 n2) ∧ ∃ y', forGo (put1 5) (ex (callF fns02 (m + 3)) bnB) ((List.range' o1.length o2.length).map nI) (bnS text (o1 ++ o2) (n1 ++ n2) y) = some (bnS text (o1 ++ o2) (n1 ++ n2) y', if b then .next else .ret (.bool false))
  | [], [], o1, n1, y, _, _, _, _, _ => ⟨true, ⟨fun _ => trivial, fun _ => rfl⟩, y, rfl⟩
  | o :: o2, x :: n2, o1, n1, y, hl, hl2, hle, ho, hn => by
    have hle' : o1.length + (o2.length + 1) ≤ 100 := hle
    obtain ⟨b, hb, e⟩ := bn_turn m (text := text) (o2 := o2) (n2 := n2) hl (Nat.le_trans (Nat.le_add_right _ _) hle') (ho o List.mem_cons_self).1 (ho o List.mem_cons_self).2 (hn x List.mem_cons_self).1 (hn x List.mem_cons_self).2
    have hc : ∀ res, fOut (callF fns02 (m + 3)) (put1 5) bnB ((List.range' (o1.length + 1) o2.length).map nI) (bnS text (o1 ++ o :: o2) (n1 ++ x :: n2) (.val (nI o1.length))) (if b then .next else .ret (.bool false)) = res → forGo (put1 5) (ex (callF fns02 (m + 3)) bnB) ((List.range' o1.length (o :: o2).length).map nI) (bnS text (o1 ++ o :: o2) (n1 ++ x :: n2) y) = res := fun res h => by
      rw [List.length_cons, List.range'_succ, List.map_cons]
      exact zaM (st := put1 5) zii e h
    cases b with
    | false => exact ⟨false, ⟨(fun h => nomatch h), fun h => hb.mpr h.1⟩, _, hc _ zbZ⟩
    | true =>
      have e1 : o1 ++ o :: o2 = (o1 ++ [o]) ++ o2 := by simp
      have e2 : n1 ++ x :: n2 = (n1 ++ [x]) ++ n2 := by simp
      obtain ⟨b, hb2, y', e3⟩ := zje (o2 := o2) (n2 := n2) (o1 := o1 ++ [o]) (n1 := n1 ++ [x]) (y := .val (nI o1.length)) (by simp [hl]) (Nat.succ.inj hl2) (by rw [List.length_append, List.length_singleton]; omega) (fun o h => ho o (List.mem_cons_of_mem _ h)) fun x h => hn x (List.mem_cons_of_mem _ h)
      rw [← e1, ← e2, List.length_append, List.length_singleton] at e3
      exact ⟨b, ⟨fun h => ⟨hb.mp rfl, hb2.mp h⟩, fun h => hb2.mpr h.2⟩, y', hc _ (zbp e3)⟩
theorem o_nei {a b : Nat} : opF .ne [nI a, nI b] = some (.val (.bool (!decide (a = b)))) := by
  show some (R.val (.bool (!decide ((a : Int) = (b : Int))))) = _
  rw [decide_eq_decide.mpr Int.ofNat_inj]
theorem zkh {t : List Nat} (h : Cl t out) (ht : ∀ k ∈ t, k < 7) (hl : t.length ≤ 100) (ho : ∀ o ∈ out, (∀ k ∈ o, k < 7) ∧ o.length ≤ 7) (hol : out.length ≤ 100) (hn : ∀ x ∈ names, (∀ c ∈ x, c ∈ sg2) ∧ x.length ≤ 100) (hnl : names.length ≤ 100) :
    ∃ b : Bool, (b = true ↔ BN out names) ∧ callF fns02 (m + 4) 22 [.str (tx t), strsD names, .tok 0, .tok 2] = some (.bool b) := by
  have hc := zkC m h ht hl hol
  have l1 : opF .len [.list (outD out)] = some (.val (nI out.length)) := zio (g := fun o => D.str (tx o))
  have l2 : opF .len [strsD names] = some (.val (nI names.length)) := zio (g := D.str)
  have key : ∀ b : Bool, (b = true ↔ BN out names) → (∃ ρ', ex (callF fns02 (m + 3)) s_law_by_names [.val (.str (tx t)), .val (strsD names), .val (.tok 0), .val (.tok 2), .unset, .unset] = some (ρ', .ret (.bool b))) →
      ∃ b : Bool, (b = true ↔ BN out names) ∧ callF fns02 (m + 4) 22 [.str (tx t), strsD names, .tok 0, .tok 2] = some (.bool b) := fun b hb hx =>
    ⟨b, hb, zct (fn := fn_law_by_names) rfl (ρ := [.val (.str (tx t)), .val (strsD names), .val (.tok 0), .val (.tok 2), .unset, .unset]) rfl hx⟩
  have c1 : ∀ {y : Slot}, evT (callF fns02 (m + 3)) (.op .ne (.cons (.op .len (.cons (.var 4) .nil)) (.cons (.op .len (.cons (.var 1) .nil)) .nil))) (bnS (.str (tx t)) out names y) = some (!decide (out.length = names.length)) :=
    T_of (V_op2 (V_op1 rfl l1) (V_op1 rfl l2) o_nei)
  have c1 := c1 (y := .unset)
  unfold s_law_by_names at key
  by_cases hq : out.length = names.length
  · obtain ⟨b, hb, y, e⟩ := zje m (text := .str (tx t)) (o1 := []) (n1 := []) (o2 := out) (n2 := names) (y := .unset) rfl hq (by simpa using hol) ho hn
    rw [decide_eq_true hq] at c1
    rw [List.nil_append, List.nil_append] at e
    unfold bnB at e
    refine key b hb ⟨bnS (.str (tx t)) out names y, R_seq (zak (E_of (zb3 rfl rfl hc) rfl) rfl) (zaf (R_seq (R_ite (t := false) c1 (R_ff zan)) (zaf (R_seq (R_for (I_of (zbV (zao (V_op1 rfl l2) rfl) ((zbs (Nat.le_trans hnl (by decide))).trans (by rw [← hq]; rfl)))) e) ?_))))⟩
    cases b with
    | true => exact zaf (R_seq (R_ret rfl) zai)
    | false => exact zai
  · rw [decide_eq_false hq] at c1
    exact key false ⟨(fun h => nomatch h), fun h => absurd h.len hq⟩ ⟨_, R_seq (zak (E_of (zb3 rfl rfl hc) rfl) rfl) (zaf (R_seq (R_ite (t := true) c1 (R_tt (R_seq (R_ret rfl) zai))) zai))⟩
end
end Mine
end
section
open PySem PySem.StrLaws PySem.Builtin PySem.Builtin.Str
namespace Mine
noncomputable def sp (l : List Nat) : List (List Nat) := (Txt.split ⟨l.toArray⟩ ⟨[47].toArray⟩).map (·.cps.toList)
theorem zeL : ∀ ls : List (List Nat), toStrs (ls.map .str) = some ls
  | [] => rfl
  | l :: ls => by
    rw [List.map_cons]
    unfold toStrs
    rw [zeL ls]; rfl
section
variable {fns : Nat → Option Fn}
end
theorem o_dropN {l : List D} {n : Nat} (h : n ≤ 1000000) (hl : n ≤ l.length) : opF .slice [.list l, .int (n : Int), .none] = some (.own (l.drop n)) := by
  have e : bound (.int (n : Int)) 0 l.length = some (clip (n : Int) l.length) := by
    show (if small (n : Int) = true then some (clip (n : Int) l.length) else none) = _
    rw [if_pos (zbk h)]
  show (match bound (.int (n : Int)) 0 l.length, bound .none l.length l.length with
    | some lo, some hi => some (R.own (cut l lo hi))
    | _, _ => none) = _
  rw [e]
  show some (R.own (cut l (clip (n : Int) l.length) l.length)) = _
  rw [zfa hl]
  unfold cut
  rw [List.take_of_length_le (by rw [List.length_drop]; exact Nat.le_refl _)]
section
variable {cf : CfT} {x0 x3 x4 : Slot}
end
section
variable {fns : Nat → Option Fn}
end
end Mine
end
section
open PySem
namespace Mine
noncomputable def iD (k : Nat) : D := .str (aT k)
noncomputable def txD (t : List Nat) : D := .str (tx t)
section
variable {cf : CfT}
theorem V_comp3 {ρ : List Slot} {i j : Nat} {it jt e : X} {items l : List D} (h : ev cf it ρ = some [.val (.list items)]) (hf : flatGo (innerL cf i jt j e ρ) items = some l) (hl : l.length ≤ lim) : ev cf (.comp3 i it j jt e) ρ = some [.own l] := by
  rw [zav, h]
  show (match flatGo (innerL cf i jt j e ρ) items with | some l => if l.length ≤ lim then some [R.own l] else none | none => none) = _
  rw [hf]
  exact if_pos hl
theorem zj3 {ρ : List Slot} {i j : Nat} {jt e : X} {d : D} {its : List D} (h : ev cf jt (ρ.set i (.val d)) = some [.val (.list its)]) : innerL cf i jt j e ρ d = compGo (fun d' => turnD (some [.val (.bool true)]) (ev cf e ((ρ.set i (.val d)).set j (.val d')))) its := by
  unfold innerL
  rw [I_of h]
theorem zg6 {f : D → Option (List D)} {g : Nat → D} {h : Nat → List D} : ∀ {ks : List Nat}, (∀ k ∈ ks, f (g k) = some (h k)) → flatGo f (ks.map g) = some (ks.flatMap h)
  | [], _ => rfl
  | k :: ks, H => by
    show (match f (g k) with | some a => (flatGo f (ks.map g)).map (a ++ ·) | none => none) = _
    rw [H k List.mem_cons_self, zg6 fun j hj => H j (List.mem_cons_of_mem _ hj)]
    rfl
theorem zhd {α : Type} {f : D → Option (Option D)} {g v : α → D} : ∀ {l : List α}, (∀ a ∈ l, f (g a) = some (some (v a))) → compGo f (l.map g) = some (l.map v)
  | [], _ => rfl
  | a :: l, H => by
    show (match f (g a) with | none => none | some none => _ | some (some y) => (match compGo f (l.map g) with | some ys => some (y :: ys) | none => none)) = _
    rw [H a List.mem_cons_self, zhd fun b hb => H b (List.mem_cons_of_mem _ hb)]
    rfl
theorem o_tail {x : D} {l : List D} : opF .slice [.list (x :: l), .int 1, .none] = some (.own l) := o_dropN (n := 1) (by decide) (Nat.succ_le_succ (Nat.zero_le _))
theorem zjn : ∀ {j : Nat} {r : List Nat}, j ≤ 2 → tx (stars j r) = ([42] ++ rep [47, 42] (j : Int)) ++ tx r
  | 0, r, _ => rfl
  | 1, r, _ => rfl
  | 2, r, _ => rfl
theorem mul_sl : ∀ j, j ≤ 2 → opF .mul [.str [47, 42], nI j] = some (.val (.str (rep [47, 42] (j : Int))))
  | 0, _ => rfl
  | 1, _ => rfl
  | 2, _ => rfl
theorem zgQ : ∀ j, j ≤ 2 → (rep [47, 42] ((j : Nat) : Int)).length ≤ 4
  | 0, _ => by decide
  | 1, _ => by decide
  | 2, _ => by decide
theorem zeP : ∀ {L : List Nat} {s : Nat}, s ≤ 2 → (SP L s).length ≤ 3 ^ L.length
  | [], s, _ => by
    show (if s = 0 then [[]] else [] : List (List Nat)).length ≤ 1
    split <;> decide
  | k :: L, s, hs => by
    have ih : ∀ s, s ≤ 2 → (SP L s).length ≤ 3 ^ L.length := fun s h => zeP h
    rw [List.length_cons, Nat.pow_succ]
    by_cases h5 : k = 5
    · subst h5
      rw [zdN]
      have h0 := ih 0 (by decide)
      have h1 := ih 1 (by decide)
      have h2 := ih 2 (by decide)
      match s, hs with
      | 0, _ => simp [List.range_succ]; omega
      | 1, _ => simp [List.range_succ]; omega
      | 2, _ => simp [List.range_succ]; omega
    · have h1 := ih s hs
      have h2 := ih (s - 1) (Nat.le_trans (Nat.sub_le _ _) hs)
      by_cases h2' : k = 2
      · subst h2'
        rw [zdD]
        split
        · rw [List.length_map]; omega
        · exact Nat.zero_le _
      · rw [zgJ h5 h2', List.length_append, List.length_map]
        split
        · rw [List.length_map]; omega
        · rw [List.length_nil]; omega
end
theorem is5 : (List.range 7).map (fun k => opF .eq [iD k, .str [42]]) = (List.range 7).map fun k => some (R.val (.bool (decide (k = 5)))) := by kernel_rfl
theorem isS2 : (List.range 7).map (fun k => opF .eq [iD k, .str [47]]) = (List.range 7).map fun k => some (R.val (.bool (decide (k = 2)))) := by kernel_rfl
theorem isQ2 : (List.range 7).map (fun k => opF .in_ [iD k, .tup [.str [63], .str [91, 33, 97, 93]]]) = (List.range 7).map fun k => some (R.val (.bool (decide (k = 3 ∨ k = 4)))) := by kernel_rfl
theorem zin {a b : Nat} (h : b ≤ a) : opF .sub [nI a, nI b] = some (.val (nI (a - b))) := by
  show some (R.val (.int ((a : Int) - (b : Int)))) = _
  rw [← Int.ofNat_sub h]; rfl
theorem zh5 : ∀ {L : List Nat}, (∀ k ∈ L, k < 7) → L.length ≤ 5 → ∀ {n s : Nat}, L.length ≤ n → s ≤ 2 → callF fns02 (n + 1) 21 [.list (L.map iD), nI s] = some (.list ((SP L s).map txD))
  | [], _, _, n, s, _, hs => by
    refine zct (fn := fn_law_spread) rfl (ρ := [.val (.list []), .val (nI s), .unset, .unset, .unset, .unset, .unset, .unset, .unset]) rfl ?_
    show ∃ ρ', ex (callF fns02 n) s_law_spread _ = _
    unfold s_law_spread
    match s, hs with
    | 0, _ => exact ⟨_, R_seq (R_ite (t := true) rfl (R_tt (R_seq (R_ret rfl) zai))) zai⟩
    | 1, _ => exact ⟨_, R_seq (R_ite (t := true) rfl (R_tt (R_seq (R_ret rfl) zai))) zai⟩
    | 2, _ => exact ⟨_, R_seq (R_ite (t := true) rfl (R_tt (R_seq (R_ret rfl) zai))) zai⟩
  | k :: L, hL, h5L, n + 1, s, hn, hs => by
    have hL' : ∀ k ∈ L, k < 7 := fun j hj => hL j (List.mem_cons_of_mem _ hj)
    have hk := List.mem_range.mpr (hL k List.mem_cons_self)
    have hLl : L.length ≤ 4 := Nat.le_of_succ_le_succ h5L
    have ih : ∀ {s : Nat}, s ≤ 2 → callF fns02 (n + 1) 21 [.list (L.map iD), nI s] = some (.list ((SP L s).map txD)) := fun h => zh5 hL' (Nat.le_succ_of_le hLl) (Nat.le_of_succ_le_succ hn) h
    have hlen : ∀ {s : Nat}, s ≤ 2 → ∀ t ∈ SP L s, (tx t).length ≤ 60 := fun {s} h t ht => by
      have P := zc8 hL' ht
      exact Nat.le_trans (zgD P.lt) (Nat.le_trans (Nat.mul_le_mul_left 6 (Nat.le_trans P.len (Nat.add_le_add hLl (Nat.mul_le_mul_left 2 h)))) (by decide))
    have cnt : ∀ {s : Nat}, s ≤ 2 → (SP L s).length ≤ 81 := fun h => Nat.le_trans (zeP h) (Nat.pow_le_pow_right (by decide) hLl)
    have call : ∀ {ρ : List Slot} {x : X} {s : Nat}, ρ[0]? = some (.val (.list (iD k :: L.map iD))) → ev (callF fns02 (n + 1)) x ρ = some [.val (nI s)] → s ≤ 2 →
        ev (callF fns02 (n + 1)) (.seqI (.call 21 (.cons (.op .slice (.cons (.var 0) (.cons (.const (.int 1)) (.cons (.const .none) .nil)))) (.cons x .nil)))) ρ = some [.val (.list ((SP L s).map txD))] := fun h0 hx h =>
      zf2 (zb3 (zao (V_op3 (V_v h0 rfl) rfl rfl o_tail) (zao hx rfl)) rfl (ih h)) rfl rfl
    have i5 := zdv is5 hk
    have i2 := zdv isS2 hk
    have iq := zdv isQ2 hk
    have add : ∀ {a b : List Nat}, a.length ≤ 100 → b.length ≤ 100 → opF .add [.str a, .str b] = some (.val (.str (a ++ b))) := fun ha hb => zgV (Nat.le_trans (Nat.add_le_add ha hb) (by decide))
    refine zct (fn := fn_law_spread) rfl (ρ := [.val (.list (iD k :: L.map iD)), .val (nI s), .unset, .unset, .unset, .unset, .unset, .unset, .unset]) rfl ?_
    show ∃ ρ', ex (callF fns02 (n + 1)) s_law_spread _ = _
    have slash : ∀ {ρ : List Slot} {i : Nat}, 0 < s → ρ[0]? = some (.val (.list (iD k :: L.map iD))) → ρ[1]? = some (.val (nI s)) → (∀ v, (ρ.set i v)[i]? = some v) →
        ev (callF fns02 (n + 1)) (.comp i (.seqI (.call 21 (.cons (.op .slice (.cons (.var 0) (.cons (.const (.int 1)) (.cons (.const .none) .nil)))) (.cons (.op .sub (.cons (.var 1) (.cons (.const (.int 1)) .nil))) .nil)))) (.const (.bool true)) (.op .add (.cons (.const (.str [47])) (.cons (.var i) .nil)))) ρ = some [.own ((SP L (s - 1)).map fun t => txD (2 :: t))] := fun hs0 h0 h1 hi =>
      zfh (g := txD) (call h0 (V_op2 (V_v h1 rfl) rfl (zin (b := 1) hs0)) (Nat.le_trans (Nat.sub_le _ _) hs)) fun t ht => ⟨_, V_op2 rfl (V_v (hi _) rfl) (add (by decide) (Nat.le_trans (hlen (Nat.le_trans (Nat.sub_le _ _) hs) t ht) (by decide))), rfl⟩
    have tl : ∀ {c : Nat}, (SP L s).map (fun t => D.str (aT c ++ tx t)) = ((SP L s).map (c :: ·)).map txD := fun {c} => by rw [List.map_map]; rfl
    have tl2 : (SP L (s - 1)).map (fun t => txD (2 :: t)) = ((SP L (s - 1)).map (2 :: ·)).map txD := by rw [List.map_map]; rfl
    have first : ∃ ρ1 : List Slot, ρ1 = [.val (.list (iD k :: L.map iD)), .val (nI s), .val (iD k), .unset, .unset, .unset, .unset, .unset, .unset] := ⟨_, rfl⟩
    unfold s_law_spread
    by_cases h5 : k = 5
    · rw [decide_eq_true h5] at i5
      refine ⟨_, R_seq (R_ite (t := false) rfl (R_ff zan)) (zaf (R_seq (zak (E_of (V_op2 rfl rfl (zbE (k := 0) rfl (Nat.zero_le _))) rfl) rfl) (zaf (R_seq (R_ite (t := true) (T_of (V_op2 rfl rfl i5)) (R_tt (R_seq (R_ret (E_of (V_comp3 (zbV (zao (V_op2 rfl rfl (zgW (b := 1))) rfl) (zbs (Nat.le_trans (Nat.succ_le_succ hs) (by decide)))) (zg6 (h := fun j => (SP L (s - j)).map fun t => txD (stars j t)) fun j hj => ?_) ?_) ?_)) zai))) zai))))⟩
      · have hj := (List.mem_range'_1.mp hj).2
        rw [Nat.zero_add] at hj
        have hj := Nat.le_of_lt_succ hj
        have hjs : s - j ≤ 2 := Nat.le_trans (Nat.sub_le _ _) hs
        have hj2 := Nat.le_trans hj hs
        refine (zj3 (call rfl (V_op2 rfl rfl (zin hj)) hjs)).trans (zhd fun t ht => ?_)
        rw [V_op2 (V_op2 rfl (V_op2 rfl rfl (mul_sl j hj2)) (add (by decide) (Nat.le_trans (zgQ j hj2) (by decide)))) rfl (add (by rw [List.length_append]; exact Nat.le_trans (Nat.add_le_add_left (zgQ j hj2) _) (by decide)) (Nat.le_trans (hlen hjs t ht) (by decide)))]
        rw [zbg]
        show some (some (D.str _)) = some (some (D.str (tx (stars j t))))
        rw [zjn hj2]
      · have := zeP (L := 5 :: L) hs
        rw [zdN, ← List.length_map (f := txD), List.map_flatMap, List.range_eq_range'] at this
        simp only [List.map_map] at this
        exact Nat.le_trans this (Nat.le_trans (Nat.pow_le_pow_right (by decide) h5L) (by decide))
      · subst h5
        rw [zdN, List.map_flatMap, List.range_eq_range']
        simp only [List.map_map]
        rfl
    · rw [decide_eq_false h5] at i5
      by_cases h2 : k = 2
      · rw [decide_eq_true h2] at i2
        refine ⟨_, R_seq (R_ite (t := false) rfl (R_ff zan)) (zaf (R_seq (zak (E_of (V_op2 rfl rfl (zbE (k := 0) rfl (Nat.zero_le _))) rfl) rfl) (zaf (R_seq (R_ite (t := false) (T_of (V_op2 rfl rfl i5)) (R_ff zan)) (zaf (R_seq (R_ite (t := true) (T_of (V_op2 rfl rfl i2)) (R_tt (R_seq (R_ret ?_) zai))) zai))))))⟩
        subst h2
        rw [zdD]
        by_cases hs0 : 0 < s
        · rw [if_pos hs0, ← tl2]
          exact E_of (zkj (V_op2 rfl rfl (o_gt0.trans (by rw [decide_eq_true hs0]))) (slash hs0 rfl rfl fun _ => rfl)) rfl
        · rw [if_neg hs0]
          exact E_of (zkk (V_op2 rfl rfl (o_gt0.trans (by rw [decide_eq_false hs0]))) rfl) rfl
      · rw [decide_eq_false h2] at i2
        have e1 : ∀ {ρ : List Slot}, ρ[0]? = some (.val (.list (iD k :: L.map iD))) → ρ[1]? = some (.val (nI s)) → (∀ v, (ρ.set 7 v)[7]? = some v) → (∀ v, (ρ.set 7 v)[2]? = some (.val (iD k))) →
            ev (callF fns02 (n + 1)) (.comp 7 (.seqI (.call 21 (.cons (.op .slice (.cons (.var 0) (.cons (.const (.int 1)) (.cons (.const .none) .nil)))) (.cons (.var 1) .nil)))) (.const (.bool true)) (.op .add (.cons (.var 2) (.cons (.var 7) .nil)))) ρ = some [.own ((SP L s).map fun t => txD (k :: t))] := fun h0 h1 h7 h2 =>
          zfh (g := txD) (call h0 (V_v h1 rfl) hs) fun t ht => ⟨_, V_op2 (V_v (h2 _) rfl) (V_v (h7 _) rfl) (add (Nat.le_trans ((show ∀ k, k < 7 → (aT k).length ≤ 6 by decide) k (List.mem_range.mp hk)) (by decide)) (Nat.le_trans (hlen hs t ht) (by decide))), rfl⟩
        have tl1 : (SP L s).map (fun t => txD (k :: t)) = ((SP L s).map (k :: ·)).map txD := by rw [List.map_map]; rfl
        rw [zgJ h5 h2, List.map_append, ← tl1]
        by_cases hq : (k = 3 ∨ k = 4) ∧ 0 < s
        · rw [if_pos hq, ← tl2]
          rw [decide_eq_true hq.1] at iq
          refine ⟨_, R_seq (R_ite (t := false) rfl (R_ff zan)) (zaf (R_seq (zak (E_of (V_op2 rfl rfl (zbE (k := 0) rfl (Nat.zero_le _))) rfl) rfl) (zaf (R_seq (R_ite (t := false) (T_of (V_op2 rfl rfl i5)) (R_ff zan)) (zaf (R_seq (R_ite (t := false) (T_of (V_op2 rfl rfl i2)) (R_ff zan)) (zaf (R_seq (zak (E_of (e1 rfl rfl (fun _ => rfl) fun _ => rfl) rfl) rfl) (zaf (R_seq
            (R_ite (t := true) (T_of (V_and (p := true) (q := true) (V_op2 rfl rfl iq) fun _ => V_op2 rfl rfl (o_gt0.trans (by rw [decide_eq_true hq.2])))) (R_tt (R_seq (zak (E_of (V_op2 rfl (slash hq.2 rfl rfl fun _ => rfl) (o_addl ?_)) rfl) rfl) (zaf zan)))) (zaf (R_seq (R_ret rfl) zai))))))))))))⟩
          rw [List.length_map, List.length_map]
          exact Nat.le_trans (Nat.add_le_add (cnt hs) (cnt (Nat.le_trans (Nat.sub_le _ _) hs))) (by decide)
        · rw [if_neg hq, List.map_nil, List.append_nil]
          have hf : evT (callF fns02 (n + 1)) (.and (.op .in_ (.cons (.var 2) (.cons (.tup (.cons (.const (.str [63])) (.cons (.const (.str [91, 33, 97, 93])) .nil))) .nil))) (.op .gt (.cons (.var 1) (.cons (.const (.int 0)) .nil)))) [.val (.list (iD k :: L.map iD)), .val (nI s), .val (iD k), .val (.list ((SP L s).map fun t => txD (k :: t))), .unset, .unset, .unset, .unset, .unset] = some false := by
            have := T_of (V_and (cf := callF fns02 (n + 1)) (ρ := [.val (.list (iD k :: L.map iD)), .val (nI s), .val (iD k), .val (.list ((SP L s).map fun t => txD (k :: t))), .unset, .unset, .unset, .unset, .unset]) (x := .op .in_ (.cons (.var 2) (.cons (.tup (.cons (.const (.str [63])) (.cons (.const (.str [91, 33, 97, 93])) .nil))) .nil))) (y := .op .gt (.cons (.var 1) (.cons (.const (.int 0)) .nil))) (V_op2 rfl rfl iq) fun _ => V_op2 rfl rfl o_gt0)
            rw [this, ← Bool.decide_and, decide_eq_false hq]
          exact ⟨_, R_seq (R_ite (t := false) rfl (R_ff zan)) (zaf (R_seq (zak (E_of (V_op2 rfl rfl (zbE (k := 0) rfl (Nat.zero_le _))) rfl) rfl) (zaf (R_seq (R_ite (t := false) (T_of (V_op2 rfl rfl i5)) (R_ff zan)) (zaf (R_seq (R_ite (t := false) (T_of (V_op2 rfl rfl i2)) (R_ff zan)) (zaf (R_seq (zak (E_of (e1 rfl rfl (fun _ => rfl) fun _ => rfl) rfl) rfl) (zaf (R_seq
            (R_ite (t := false) hf (R_ff zan)) (zaf (R_seq (R_ret rfl) zai))))))))))))⟩
end Mine
end
section
open PySem
noncomputable section
namespace Mine
noncomputable def nm5 : List (List Nat) := [[97], [98], [97, 98], [98, 97], [98, 98]]
noncomputable def cN (x : List Nat) : List Nat := x.map (· - 97)
theorem nm_ok : ∀ x ∈ nm5, (tx (cN x) = x ∧ cN x ≠ [] ∧ (cN x).getLast? ≠ some 2 ∧ 2 ∉ cN x) ∧ (x ≠ [] ∧ 47 ∉ x) ∧ (x.length ≤ 2 ∧ (cN x).length ≤ 2) := by decide
theorem nm_sg : ∀ x ∈ nm5, (∀ c ∈ x, c ∈ sg2) ∧ ∀ k ∈ cN x, k < 7 := by decide
set_option genInjectivity false in
structure Nm2 (N : List (List Nat)) : Prop where
  mem : ∀ x ∈ N, x ∈ nm5
  ne : N ≠ []
  len : N.length ≤ 3
theorem Nm2.ok {N : List (List Nat)} (H : Nm2 N) : ∀ x ∈ N, NameOK x := fun x hx => (nm_ok x (H.mem x hx)).2.1
set_option genInjectivity false in
structure PathC (N : List (List Nat)) (t : List Nat) : Prop where
  e : tx t = txt N
  cl : Cl t (N.reverse.map cN)
  lt : ∀ k ∈ t, k < 7
  ne : t ≠ []
  last : t.getLast? ≠ some 2
  len : t.length ≤ 3 * N.length
theorem zks : ∀ (n : Nat) {N : List (List Nat)}, N.length = n + 1 → (∀ x ∈ N, x ∈ nm5) → ∃ t, PathC N t
  | 0, N, hl, h => by
    obtain ⟨x, rfl⟩ := List.length_eq_one_iff.mp hl
    have q := nm_ok x (h x List.mem_cons_self)
    exact ⟨cN x, q.1.1, .last q.1.2.1 q.1.2.2.2, (nm_sg x (h x List.mem_cons_self)).2, q.1.2.1, q.1.2.2.1, Nat.le_trans q.2.2.2 (show 2 ≤ 3 by decide)⟩
  | n + 1, N, hl, h => by
    rcases List.eq_nil_or_concat N with rfl | ⟨N', y, rfl⟩
    · cases hl
    rw [List.concat_eq_append] at hl h ⊢
    obtain ⟨t, P⟩ := zks n (N := N') (by simpa using hl) fun x hx => h x (List.mem_append_left _ hx)
    have hy := h y (List.mem_append_right _ List.mem_cons_self)
    have q := nm_ok y hy
    have hN : N' ≠ [] := fun e => by rw [e] at hl; simp at hl
    refine ⟨t ++ (List.replicate 0 2 ++ 2 :: cN y), ?_, ?_, fun k hk => ?_, fun e => P.ne (List.append_eq_nil_iff.mp e).1, fun e => q.1.2.2.1 ?_, ?_⟩
    · rw [zdi, P.e, zdB hN]
      show txt N' ++ 47 :: tx (cN y) = _
      rw [q.1.1]
    · rw [List.reverse_append]
      exact .step P.ne P.last q.1.2.2.2 P.cl
    · rcases List.mem_append.mp hk with hk | hk
      · exact P.lt k hk
      · rcases List.mem_cons.mp (show k ∈ 2 :: cN y from hk) with rfl | hk
        · decide
        · exact (nm_sg y hy).2 k hk
    · have e1 : t ++ (List.replicate 0 2 ++ 2 :: cN y) = (t ++ [2]) ++ cN y := by simp
      rw [e1, List.getLast?_append] at e
      cases e2 : (cN y).getLast? with
      | none => exact absurd (List.getLast?_eq_none_iff.mp e2) q.1.2.1
      | some z => rw [e2] at e; exact e
    · have := P.len
      have := q.2.2.2
      simp only [List.length_append, List.length_cons, List.length_replicate, List.length_nil]
      omega
theorem Nm2.path {N : List (List Nat)} (H : Nm2 N) : ∃ t, PathC N t := zks (N.length - 1) (Nat.sub_add_cancel (List.length_pos_iff.mpr H.ne)).symm H.mem
theorem zht {N : List (List Nat)} (h : ∀ x ∈ N, x ∈ nm5) : D.list (outD (N.map cN)) = strsD N := by
  unfold outD strsD
  rw [List.map_map]
  exact congrArg D.list (List.map_congr_left fun x hx => congrArg D.str (nm_ok x (h x hx)).1.1)
theorem zik {N : List (List Nat)} (H : Nm2 N) : (∀ c ∈ txt N, c ∈ sg2) ∧ (txt N).length ≤ 9 ∧ sl2 (txt N) = N.length - 1 := by
  have one : ∀ x ∈ nm5, sl2 x = 0 := by decide
  have key : ∀ (n : Nat) {N : List (List Nat)}, N.length = n + 1 → (∀ x ∈ N, x ∈ nm5) → (∀ c ∈ txt N, c ∈ sg2) ∧ (txt N).length ≤ 3 * N.length ∧ sl2 (txt N) = N.length - 1 := by
    intro n
    induction n with
    | zero =>
      intro N hl h
      obtain ⟨x, rfl⟩ := List.length_eq_one_iff.mp hl
      have hx := h x List.mem_cons_self
      exact ⟨(nm_sg x hx).1, Nat.le_trans (nm_ok x hx).2.2.1 (show 2 ≤ 3 by decide), one x hx⟩
    | succ n ih =>
      intro N hl h
      rcases List.eq_nil_or_concat N with rfl | ⟨N', y, rfl⟩
      · cases hl
      rw [List.concat_eq_append] at hl h ⊢
      obtain ⟨h1, h2, h3⟩ := ih (N := N') (by simpa using hl) fun x hx => h x (List.mem_append_left _ hx)
      have hy := h y (List.mem_append_right _ List.mem_cons_self)
      have hl' : N'.length = n + 1 := by simpa using hl
      have hN : N' ≠ [] := fun e => by rw [e] at hl'; cases hl'
      rw [zdB hN]
      refine ⟨fun c hc => ?_, ?_, ?_⟩
      · rcases List.mem_append.mp hc with hc | hc
        · exact h1 c hc
        · rcases List.mem_cons.mp hc with rfl | hc
          · decide
          · exact (nm_sg y hy).1 c hc
      · have := (nm_ok y hy).2.2.1
        simp only [List.length_append, List.length_cons, List.length_nil]
        omega
      · rw [zgK, zcD, one y hy, h3, if_pos rfl, List.length_append, hl']; rfl
  obtain ⟨h1, h2, h3⟩ := key (N.length - 1) (Nat.sub_add_cancel (List.length_pos_iff.mpr H.ne)).symm H.mem
  exact ⟨h1, Nat.le_trans h2 (Nat.mul_le_mul_left 3 H.len), h3⟩
theorem rq3 {L : List Nat} : L.map (rq 3) = L := by
  have : rq 3 = id := by
    funext k
    unfold rq
    split
    · rename_i h; exact h.symm
    · rfl
  rw [this, List.map_id]
set_option genInjectivity false in
structure It (L : List Nat) : Prop where
  lt : ∀ k ∈ L, k < 7
  len : L.length ≤ 5
set_option genInjectivity false in
structure CF02 (cf : CfT) : Prop where
  tr : ∀ {L}, It L → cf 1 [.str (tx L), .tok 0, .str [46]] = some (.list ((mg L).map aP))
  tk : ∀ {L N}, It L → Nm2 N → ∃ b, cf 15 [.list ((mg L).map aP), .tok 0, .str (txt N)] = some (.bool b) ∧ (b = true ↔ Mt L (txt N))
  jn : ∀ {N}, Nm2 N → cf 4 (N.map .str) = some (.str (txt N))
  cl : ∀ {N}, Nm2 N → cf 20 [.str (txt N)] = some (strsD N.reverse)
  sp : ∀ {L N}, It L → Nm2 N → cf 21 [.list (L.map iD), nI (N.length - 1)] = some (.list ((SP L (N.length - 1)).map txD))
  bn : ∀ {L N t}, It L → Nm2 N → t ∈ SP L (N.length - 1) → ∃ b, cf 22 [txD t, strsD N.reverse, .tok 0, .tok 2] = some (.bool b) ∧ (b = true ↔ Mn t (txt N))
theorem cf02 : CF02 (callF fns02 40) where
  tr := fun {L} H => by
    have := zfn 38 (.inl rfl) H.lt (Nat.le_trans H.len (by decide))
    rw [rq3] at this
    exact this
  tk := fun {L N} H HN => by
    obtain ⟨p1, p2, _⟩ := zik HN
    have := tt2 38 (.inl rfl) H.lt p1 (Nat.le_trans p2 (by decide))
    rw [rq3] at this
    exact this
  jn := fun {N} H => by
    obtain ⟨h1, h2, h3⟩ := H
    cases N with
    | nil => exact absurd rfl h2
    | cons w bs =>
      have hb : bs.length ≤ 2 := Nat.le_of_succ_le_succ h3
      have ok := fun x hx => (nm_ok x (h1 x hx)).2
      refine zj0 rfl rfl rfl 38 (ok w List.mem_cons_self).1 (fun x hx => (ok x (List.mem_cons_of_mem _ hx)).1) ?_ (Nat.lt_of_le_of_lt hb (by decide))
      have hw := (ok w List.mem_cons_self).2.1
      have hs : lenS bs ≤ 6 := by
        rcases bs with _ | ⟨a, _ | ⟨b, _ | ⟨c, r⟩⟩⟩
        · decide
        · have := (ok a (by simp)).2.1
          simp only [lenS, List.map_cons, List.map_nil, List.sum_cons, List.sum_nil]; omega
        · have := (ok a (by simp)).2.1
          have := (ok b (by simp)).2.1
          simp only [lenS, List.map_cons, List.map_nil, List.sum_cons, List.sum_nil]; omega
        · exact absurd hb (by simp)
      exact Nat.le_trans (Nat.add_le_add hw hs) (by decide)
  cl := fun {N} H => by
    obtain ⟨t, P⟩ := H.path
    have hl : t.length ≤ 100 := Nat.le_trans P.len (Nat.le_trans (Nat.mul_le_mul_left 3 H.len) (by decide))
    have := zkC 37 P.cl P.lt hl (by rw [List.length_map, List.length_reverse]; exact Nat.le_trans H.len (by decide))
    rw [P.e, zht fun x hx => H.mem x (List.mem_reverse.mp hx)] at this
    exact this
  sp := fun {L N} H HN => zh5 (n := 39) H.lt H.len (Nat.le_trans H.len (by decide)) (Nat.sub_le_of_le_add HN.len)
  bn := fun {L N t} H HN ht => by
    have S := zc8 H.lt ht
    have hs : N.length - 1 ≤ 2 := Nat.sub_le_of_le_add HN.len
    obtain ⟨out, hc⟩ := cl_ex _ t (Nat.le_refl _)
    have h9 : t.length ≤ 9 := Nat.le_trans S.len (Nat.le_trans (Nat.add_le_add H.len (Nat.mul_le_mul_left 2 hs)) (by decide))
    have hcnt := S.cnt
    obtain ⟨b, hb, e⟩ := zkh 36 (names := N.reverse) hc S.lt (Nat.le_trans h9 (by decide)) (fun o ho => by
      obtain ⟨q1, q2⟩ := hc.parts o ho
      refine ⟨fun k hk => S.lt k (q1 k hk), ?_⟩
      have := S.len
      have := H.len
      rw [hcnt] at q2
      omega) (Nat.le_trans hc.len (by rw [hcnt]; exact Nat.le_trans (Nat.succ_le_succ hs) (by decide))) (fun x hx => by
      have := HN.mem x (List.mem_reverse.mp hx)
      exact ⟨(nm_sg x this).1, Nat.le_trans (nm_ok x this).2.2.1 (by decide)⟩) (by rw [List.length_reverse]; exact Nat.le_trans HN.len (by decide))
    exact ⟨b, e, hb.trans (bn_ok hc S.lt HN.ne HN.ok (by rw [hcnt]; exact Nat.sub_add_cancel (List.length_pos_iff.mpr HN.ne)))⟩
theorem heart {L : List Nat} {N : List (List Nat)} (H : It L) (HN : Nm2 N) : Mt L (txt N) ↔ ∃ t ∈ SP L (N.length - 1), Mn t (txt N) := by
  obtain ⟨p1, _, p3⟩ := zik HN
  rw [← p3]
  exact sp_ok H.lt p1
end Mine
end
section
open PySem PySem.StrLaws PySem.Builtin PySem.Builtin.Str
noncomputable section
namespace Mine
noncomputable def igB : S := (.seq (.ite (.or (.op .gt (.cons (.var 7) (.cons (.const (.int 0)) .nil))) (.op .eq (.cons (.var 8) (.cons (.list .nil) .nil)))) (.seq (.assign 10 (.op .index (.cons (.tup (.cons (.const (.str [42])) (.cons (.const (.str [97])) (.cons (.const (.str [63])) (.cons (.const (.str [47])) (.cons (.const (.str [91, 33, 97, 93])) (.cons (.const (.str [91, 97, 45, 98, 93])) (.cons (.const (.str [98])) .nil)))))))) (.cons (.op .mod (.cons (.var 7) (.cons (.const (.int 7)) .nil))) .nil)))) (.seq (.ite (.or (.op .ne (.cons (.var 10) (.cons (.const (.str [42])) .nil))) (.or (.op .notin (.cons (.const (.str [42])) (.cons (.var 8) .nil))) (.and (.op .lt (.cons (.op .count (.cons (.var 8) (.cons (.const (.str [42])) .nil))) (.cons (.const (.int 2)) .nil))) (.op .ne (.cons (.op .index (.cons (.var 8) (.cons (.op .neg (.cons (.const (.int 1)) .nil)) .nil))) (.cons (.const (.str [42])) .nil)))))) (.seq (.append 8 (.var 10)) .skip) .skip) (.seq (.assign 7 (.op .fdiv (.cons (.var 7) (.cons (.const (.int 7)) .nil)))) .skip))) .skip) .skip)
noncomputable def igC : X := (.or (.op .ne (.cons (.var 10) (.cons (.const (.str [42])) .nil))) (.or (.op .notin (.cons (.const (.str [42])) (.cons (.var 8) .nil))) (.and (.op .lt (.cons (.op .count (.cons (.var 8) (.cons (.const (.str [42])) .nil))) (.cons (.const (.int 2)) .nil))) (.op .ne (.cons (.op .index (.cons (.var 8) (.cons (.op .neg (.cons (.const (.int 1)) .nil)) .nil))) (.cons (.const (.str [42])) .nil))))))
noncomputable def ptB : S := (.seq (.assign 7 (.op .add (.cons (.op .index (.cons (.var 4) (.cons (.var 3) .nil))) (.cons (.op .index (.cons (.tup (.cons (.const (.int 7)) (.cons (.const (.int 2157)) (.cons (.const (.int 323)) .nil)))) (.cons (.var 3) .nil))) .nil)))) (.seq (.assignO 8 (.list .nil)) (.seq (.forE 9 (.rangeI (.cons (.const (.int 5)) .nil)) igB) (.seq (.seq (.fz 8) (.append 6 (.var 8))) .skip))))
noncomputable def LL (f : Nat → Slot) : List Slot := [f 0, f 1, f 2, f 3, f 4, f 5, f 6, f 7, f 8, f 9, f 10, f 11, f 12, f 13, f 14, f 15, f 16, .unset, .unset, .unset]
noncomputable def pD (L : List Nat) : D := .list (L.map iD)
noncomputable def wD (L : List Nat) : D := .list ((mg L).map aP)
set_option genInjectivity false in
structure B2 (S : List Nat) (f : Nat → Slot) : Prop where
  g1 : f 1 = .val (.tok 0)
  g2 : f 2 = .val (.tok 2)
  g4 : f 4 = .val (.list (S.map nI))
  na : NA f
theorem B2.upd {S : List Nat} {f : Nat → Slot} (B : B2 S f) {i : Nat} {v : Slot} (hv : ∀ k, appOK k v = true) (h1 : i ≠ 1 := by decide) (h2 : i ≠ 2 := by decide) (h4 : i ≠ 4 := by decide) : B2 S (upd f i v) :=
  ⟨(if_neg fun e => h1 e.symm).trans B.g1, (if_neg fun e => h2 e.symm).trans B.g2, (if_neg fun e => h4 e.symm).trans B.g4, B.na.upd hv⟩
section
variable {cf : CfT} {f : Nat → Slot} {S : List Nat} {Ps : List (List Nat)}
theorem zis {i : Nat} (na : NA f) : noApp i (LL f) = true := by
  rw [zbj]
  unfold LL
  simp only [List.all_cons, List.all_nil, na _ i, zaB, Bool.and_true]
theorem V_o {ρ : List Slot} {i : Nat} {x : Slot} {l : List D} (e : ρ[i]? = some x) (h : x = .own l) (hd : dSlot i = false) : ev cf (.var i) ρ = some [.bor l] := by
  rw [zaX, e, h]
  exact if_neg (by rw [hd]; exact Bool.false_ne_true)
theorem V_orX {x y : X} {p : Bool} {ρ : List Slot} (h1 : ev cf x ρ = some [.val (.bool p)]) (h2 : p = false → ∃ q, ev cf y ρ = some [.val (.bool q)]) : ∃ q, ev cf (.or x y) ρ = some [.val (.bool q)] := by
  cases p with
  | true => exact ⟨true, by rw [zbl, h1]; rfl⟩
  | false =>
    obtain ⟨q, h⟩ := h2 rfl
    exact ⟨q, by rw [zbl, h1]; exact h⟩
theorem V_andX {x y : X} {p : Bool} {ρ : List Slot} (h1 : ev cf x ρ = some [.val (.bool p)]) (h2 : ∃ q, ev cf y ρ = some [.val (.bool q)]) : ∃ q, ev cf (.and x y) ρ = some [.val (.bool q)] := by
  obtain ⟨q, h⟩ := h2
  exact ⟨_, V_and h1 fun _ => h⟩
theorem zg4 {L : List Nat} : L.map iD = (L.map aT).map D.str := by rw [List.map_map]; rfl
theorem o_notin {t : List Nat} {P : List (List Nat)} : opF .notin [.str t, .list (P.map .str)] = some (.val (.bool (!P.any fun a => decide (a = t)))) := by
  show ((inD (.str t) (.list (P.map .str))).map (!·)).map (fun x => R.val (.bool x)) = _
  rw [zkB (f := D.str) (P := fun a => decide (a = t)) (fun _ => rfl) rfl fun _ => zi0]; rfl
theorem o_cnt {t : List Nat} {P : List (List Nat)} : opF .count [.list (P.map .str), .str t] = some (.val (nI (P.count t))) := by
  show (match toStrs (P.map .str) with | some ls => some (R.val (.int (ls.count t))) | none => none) = _
  rw [zeL]; rfl
noncomputable def pm (k : Nat) : Nat := ([5, 0, 3, 2, 4, 6, 1] : List Nat).getD k 0
theorem pm_lt : ∀ k, k < 7 → pm k < 7 := by decide
set_option genInjectivity false in
structure IG (S : List Nat) (Ps : List (List Nat)) (n : Nat) (f : Nat → Slot) : Prop where
  b : B2 S f
  g6 : f 6 = .own (Ps.map pD)
  q : ∃ q, f 7 = .val (nI q)
  l : ∃ L : List Nat, f 8 = .own (L.map iD) ∧ (∀ k ∈ L, k < 7) ∧ L.length ≤ n
theorem ig_cond {L : List Nat} {c : Nat} (g8 : f 8 = .own (L.map iD)) (g10 : f 10 = .val (iD c)) : ∃ b, evT cf igC (LL f) = some b := by
  have e8 : ev cf (.var 8) (LL f) = some [.bor (L.map iD)] := V_o rfl g8 rfl
  have key : ∃ q, ev cf igC (LL f) = some [.val (.bool q)] := by
    unfold igC
    refine V_orX (V_op2 (V_v rfl g10) rfl (ne_str _ _)) fun _ => V_orX (V_op2 rfl e8 (show opF .notin [.str [42], .list (L.map iD)] = _ by rw [zg4]; exact o_notin)) fun e => V_andX (V_op2 (V_op2 e8 rfl (show opF .count [.list (L.map iD), .str [42]] = _ by rw [zg4]; exact o_cnt)) rfl rfl) ?_
    rcases List.eq_nil_or_concat L with rfl | ⟨L', x, rfl⟩
    · cases e
    · rw [List.concat_eq_append, List.map_append] at e8
      exact ⟨_, V_op2 (V_op2 e8 rfl ziq) rfl (ne_str _ _)⟩
  obtain ⟨q, e⟩ := key
  exact ⟨q, T_of e⟩
theorem ig_turn {n : Nat} (hn : n ≤ 4) (I : IG S Ps n f) : ∃ f', ex cf igB (LL f) = some (LL f', .next) ∧ IG S Ps (n + 1) f' := by
  obtain ⟨B, g6, ⟨q, g7⟩, L, g8, hL, hl⟩ := I
  have e8 : ev cf (.var 8) (LL f) = some [.bor (L.map iD)] := V_o rfl g8 rfl
  have c1 : evT cf (.or (.op .gt (.cons (.var 7) (.cons (.const (.int 0)) .nil))) (.op .eq (.cons (.var 8) (.cons (.list .nil) .nil)))) (LL f) = some (decide (0 < q) || decide (L.map aT = [])) :=
    T_of (V_or (V_op2 (V_v rfl g7) rfl o_gt0) (V_op2 (b := .own []) e8 rfl (show opF .eq [.list (L.map iD), .list []] = _ by rw [zg4]; exact zgn (b := []))))
  cases hc : (decide (0 < q) || decide (L.map aT = [])) with
  | false =>
    rw [hc] at c1
    refine ⟨f, ?_, B, g6, ⟨q, g7⟩, L, g8, hL, Nat.le_succ_of_le hl⟩
    unfold igB
    exact R_seq (R_ite c1 (R_ff zan)) (zaf zan)
  | true =>
    rw [hc] at c1
    have hm : q % 7 < 7 := Nat.mod_lt _ (by decide)
    let f1 := upd f 10 (.val (iD (pm (q % 7))))
    have a10 : ev1 cf (.op .index (.cons (.tup (.cons (.const (.str [42])) (.cons (.const (.str [97])) (.cons (.const (.str [63])) (.cons (.const (.str [47])) (.cons (.const (.str [91, 33, 97, 93])) (.cons (.const (.str [91, 97, 45, 98, 93])) (.cons (.const (.str [98])) .nil)))))))) (.cons (.op .mod (.cons (.var 7) (.cons (.const (.int 7)) .nil))) .nil))) (LL f) = some (iD (pm (q % 7))) :=
      E_of (V_op2 (a := .val (.tup (([5, 0, 3, 2, 4, 6, 1] : List Nat).map iD))) rfl (V_op2 (V_v rfl g7) rfl (o_mod (k := 7) (by decide))) (zeX (zf1 hm 0) (Nat.le_trans (Nat.le_of_lt hm) (by decide)))) rfl
    obtain ⟨b, c2⟩ := ig_cond (cf := cf) (f := f1) (c := pm (q % 7)) g8 rfl
    have g7' : ∀ {f : Nat → Slot}, f 7 = .val (nI q) → ev1 cf (.op .fdiv (.cons (.var 7) (.cons (.const (.int 7)) .nil))) (LL f) = some (nI (q / 7)) := fun g7 => E_of (V_op2 (V_v rfl g7) rfl (o_div (k := 7) (by decide))) rfl
    have B1 : B2 S f1 := B.upd fun _ => rfl
    unfold igC at c2
    cases b with
    | false =>
      refine ⟨upd f1 7 (.val (nI (q / 7))), ?_, B1.upd fun _ => rfl, g6, ⟨_, rfl⟩, L, g8, hL, Nat.le_succ_of_le hl⟩
      unfold igB
      exact R_seq (R_ite c1 (R_tt (R_seq (zak (ρ' := LL f1) a10 rfl) (zaf (R_seq (R_ite c2 (R_ff zan)) (zaf (R_seq (zak (g7' (f := f1) g7) rfl) (zaf zan)))))))) (zaf zan)
    | true =>
      let f2 := upd f1 8 (.own ((L ++ [pm (q % 7)]).map iD))
      have ap : ex cf (.append 8 (.var 10)) (LL f1) = some (LL f2, .next) := by
        refine za0 (l := L.map iD) (E_of (V_v rfl rfl) rfl) ?_ ?_ ?_
        · show (match some (f 8) with | some (.own l) => if dSlot 8 then none else some l | _ => none) = _
          rw [g8]; rfl
        · rw [List.length_map]; exact Nat.lt_of_le_of_lt (Nat.le_trans hl hn) (by decide)
        · show _ = LL (upd f1 8 (.own ((L ++ [pm (q % 7)]).map iD)))
          rw [List.map_append]; rfl
      refine ⟨upd f2 7 (.val (nI (q / 7))), ?_, (B1.upd fun _ => rfl).upd fun _ => rfl, g6, ⟨_, rfl⟩, L ++ [pm (q % 7)], rfl, fun k hk => ?_, by rw [List.length_append]; exact Nat.succ_le_succ hl⟩
      · unfold igB
        exact R_seq (R_ite c1 (R_tt (R_seq (zak (ρ' := LL f1) a10 rfl) (zaf (R_seq (R_ite c2 (R_tt (R_seq ap (zaf zan)))) (zaf (R_seq (zak (g7' (f := f2) g7) rfl) (zaf zan)))))))) (zaf zan)
      · rcases List.mem_append.mp hk with hk | hk
        · exact hL k hk
        · rw [List.mem_singleton.mp hk]; exact pm_lt _ hm
theorem ig_loop (I : IG S Ps 0 f) : ∃ f', forGo (put1 9) (ex cf igB) ((List.range' 0 5).map nI) (LL f) = some (LL f', .next) ∧ IG S Ps 5 f' := by
  obtain ⟨_, e, f', rfl, I'⟩ := zcs (cf := cf) (i := 9) (b := igB) (I := fun k ρ => ∃ f : Nat → Slot, ρ = LL f ∧ IG S Ps k f) (a := 0) (m := 5) (ρ := LL f) ⟨f, rfl, I⟩ fun k ρ _ hk J => by
    obtain ⟨f, rfl, B, g6, q, l⟩ := J
    obtain ⟨f', e, I'⟩ := ig_turn (cf := cf) (f := upd f 9 (.val (nI k))) (Nat.le_of_lt_succ (by rw [Nat.zero_add] at hk; exact hk)) ⟨B.upd fun _ => rfl, g6, q, l⟩
    exact ⟨LL f', .next, e, .inl rfl, f', rfl, I'⟩
  exact ⟨f', e, I'⟩
set_option genInjectivity false in
structure PG (S : List Nat) (n : Nat) (f : Nat → Slot) : Prop where
  b : B2 S f
  g6 : ∃ Ps : List (List Nat), f 6 = .own (Ps.map pD) ∧ (∀ L ∈ Ps, It L) ∧ Ps.length = n
  g8 : n = 0 ∨ ∃ d, f 8 = .val d
theorem zkw {S : List Nat} {k : Nat} (h : k < S.length) (hk : k ≤ 1000000) : opF .index [.list (S.map nI), nI k] = some (.val (nI (S.getD k 0))) := zbE (zf1 h 0) hk
theorem pt_turn {k : Nat} (hS : S.length = 8) (hk : k < 3) (I : PG S k f) : ∃ f', ex cf ptB (LL (upd f 3 (.val (nI k)))) = some (LL f', .next) ∧ PG S (k + 1) f' := by
  obtain ⟨B, ⟨Ps, g6, hP, hl⟩, _⟩ := I
  let v : Nat := S.getD k 0 + ([7, 2157, 323] : List Nat).getD k 0
  let f1 := upd (upd f 3 (.val (nI k))) 7 (.val (nI v))
  have i2 := zhZ (l := [7, 2157, 323]) (k := k) hk (Nat.le_trans (Nat.le_of_lt hk) (by decide))
  have g4 : (upd f 3 (.val (nI k))) 4 = .val (.list (S.map nI)) := B.g4
  have a7 : ev1 cf (.op .add (.cons (.op .index (.cons (.var 4) (.cons (.var 3) .nil))) (.cons (.op .index (.cons (.tup (.cons (.const (.int 7)) (.cons (.const (.int 2157)) (.cons (.const (.int 323)) .nil)))) (.cons (.var 3) .nil))) .nil))) (LL (upd f 3 (.val (nI k)))) = some (nI v) :=
    E_of (V_op2 (V_op2 (V_v rfl g4) (V_v rfl rfl) (zkw (by rw [hS]; exact Nat.lt_trans hk (by decide)) (Nat.le_trans (Nat.le_of_lt hk) (by decide)))) (V_op2 (a := .val (.tup (([7, 2157, 323] : List Nat).map fun (n : Nat) => .int (n : Int)))) rfl (V_v rfl rfl) i2) (zgW (a := S.getD k 0))) rfl
  let f2 := upd f1 8 (.own [])
  have B2' : B2 S f2 := ((B.upd fun _ => rfl).upd fun _ => rfl).upd fun _ => rfl
  have n1 : NA f1 := (B.na.upd fun _ => rfl).upd fun _ => rfl
  obtain ⟨f3, e3, I3⟩ := ig_loop (cf := cf) (f := f2) (S := S) (Ps := Ps) ⟨B2', g6, ⟨v, rfl⟩, [], rfl, (fun _ h => nomatch h), Nat.le_refl _⟩
  obtain ⟨B3, h6, _, L, h8, hL, hLl⟩ := I3
  let f4 := upd f3 8 (.val (pD L))
  let f5 := upd f4 6 (.own ((Ps ++ [L]).map pD))
  have fz : ex cf (.fz 8) (LL f3) = some (LL f4, .next) := by
    refine R_fz (l := L.map iD) ?_ rfl
    show (match some (f3 8) with | some (.own l) => if dSlot 8 then none else some l | _ => none) = _
    rw [h8]; rfl
  have ap : ex cf (.append 6 (.var 8)) (LL f4) = some (LL f5, .next) := by
    refine za0 (l := Ps.map pD) (E_of (V_v rfl rfl) rfl) ?_ ?_ ?_
    · show (match some (f3 6) with | some (.own l) => if dSlot 6 then none else some l | _ => none) = _
      rw [h6]; rfl
    · rw [List.length_map, hl]; exact Nat.lt_trans hk (by decide)
    · show _ = LL (upd f4 6 (.own ((Ps ++ [L]).map pD)))
      rw [List.map_append]; rfl
  refine ⟨f5, ?_, (B3.upd fun _ => rfl).upd fun _ => rfl, ⟨Ps ++ [L], rfl, fun x hx => ?_, by rw [List.length_append, hl]; rfl⟩, .inr ⟨_, rfl⟩⟩
  · unfold igB at e3
    unfold ptB
    exact R_seq (zak (ρ' := LL f1) a7 rfl) (zaf (R_seq (zaF (ρ' := LL f2) (zis n1) (l := []) rfl rfl) (zaf (R_seq (R_for (I_of (zbV (zao rfl rfl) (zbs (n := 5) (by decide)))) e3) (zaf (R_seq (R_seq fz (zaf ap)) (zaf zan)))))))
  · rcases List.mem_append.mp hx with hx | hx
    · exact hP x hx
    · rw [List.mem_singleton.mp hx]; exact ⟨hL, hLl⟩
theorem pt_loop (hS : S.length = 8) (I : PG S 0 f) : ∃ f', forGo (put1 3) (ex cf ptB) ((List.range' 0 3).map nI) (LL f) = some (LL f', .next) ∧ PG S 3 f' := by
  obtain ⟨_, e, f', rfl, I'⟩ := zcs (cf := cf) (i := 3) (b := ptB) (I := fun k ρ => ∃ f : Nat → Slot, ρ = LL f ∧ PG S k f) (a := 0) (m := 3) (ρ := LL f) ⟨f, rfl, I⟩ fun k ρ _ hk J => by
    obtain ⟨f, rfl, I⟩ := J
    obtain ⟨f', e, I'⟩ := pt_turn (cf := cf) hS (by rw [Nat.zero_add] at hk; exact hk) I
    exact ⟨LL f', .next, e, .inl rfl, f', rfl, I'⟩
  exact ⟨f', e, I'⟩
end
noncomputable def ngB : S := (.seq (.ite (.or (.op .gt (.cons (.var 7) (.cons (.const (.int 0)) .nil))) (.op .eq (.cons (.var 12) (.cons (.list .nil) .nil)))) (.seq (.append 12 (.op .index (.cons (.tup (.cons (.const (.str [97])) (.cons (.const (.str [98])) (.cons (.const (.str [97, 98])) (.cons (.const (.str [98, 97])) (.cons (.const (.str [98, 98])) .nil)))))) (.cons (.op .mod (.cons (.var 7) (.cons (.const (.int 5)) .nil))) .nil)))) (.seq (.assign 7 (.op .fdiv (.cons (.var 7) (.cons (.const (.int 5)) .nil)))) .skip)) .skip) .skip)
noncomputable def tnB : S := (.seq (.assign 15 (.call 15 (.cons (.op .index (.cons (.var 11) (.cons (.var 14) .nil))) (.cons (.var 1) (.cons (.var 13) .nil))))) (.seq (.seq (.fz 12) (.seq (.fz 6) (.assign 16 (.comp 19 (.seqI (.call 21 (.cons (.op .index (.cons (.var 6) (.cons (.var 14) .nil))) (.cons (.op .sub (.cons (.op .len (.cons (.var 12) .nil)) (.cons (.const (.int 1)) .nil))) .nil)))) (.call 22 (.cons (.var 19) (.cons (.op .slice3 (.cons (.var 12) (.cons (.const .none) (.cons (.const .none) (.cons (.op .neg (.cons (.const (.int 1)) .nil)) .nil))))) (.cons (.var 1) (.cons (.var 2) .nil))))) (.const (.int 1)))))) (.seq (.ite (.op .ne (.cons (.var 15) (.cons (.op .ne (.cons (.var 16) (.cons (.list .nil) .nil))) .nil))) (.seq (.ret (.const (.bool false))) .skip) .skip) .skip)))
noncomputable def phB : S := (.seq (.assign 7 (.op .add (.cons (.op .index (.cons (.var 4) (.cons (.op .add (.cons (.const (.int 3)) (.cons (.var 3) .nil))) .nil))) (.cons (.op .index (.cons (.tup (.cons (.const (.int 0)) (.cons (.const (.int 5)) (.cons (.const (.int 38)) (.cons (.const (.int 60)) (.cons (.const (.int 99)) .nil)))))) (.cons (.var 3) .nil))) .nil)))) (.seq (.assignO 12 (.list .nil)) (.seq (.forE 9 (.rangeI (.cons (.const (.int 3)) .nil)) ngB) (.seq (.seq (.fz 12) (.assign 13 (.call 4 (.star (.var 12))))) (.seq (.ite (.op .ne (.cons (.call 20 (.cons (.var 13) .nil)) (.cons (.op .slice3 (.cons (.var 12) (.cons (.const .none) (.cons (.const .none) (.cons (.op .neg (.cons (.const (.int 1)) .nil)) .nil))))) .nil))) (.seq (.ret (.const (.bool false))) .skip) .skip) (.seq (.forE 14 (.rangeI (.cons (.const (.int 3)) .nil)) tnB) .skip))))))
section
variable {cf : CfT} {f : Nat → Slot} {S : List Nat} {Ps : List (List Nat)}
theorem zfL : ∀ {ls : List (List Nat)}, joinL [] ls = ls.flatten
  | [] => rfl
  | [a] => (List.append_nil a).symm
  | a :: b :: r => by
    show a ++ [] ++ joinL [] (b :: r) = _
    rw [zfL, List.append_nil]; rfl
theorem o_join {L : List Nat} (H : It L) : opF .join [.str [], .list (L.map iD)] = some (.val (.str (tx L))) := by
  have e : joinL [] (L.map aT) = tx L := by rw [zfL]; exact List.flatMap_def.symm
  have hl : (tx L).length ≤ lim := Nat.le_trans (zgD H.lt) (Nat.le_trans (Nat.mul_le_mul_left 6 H.len) (by decide))
  rw [zg4]
  show (match toStrs ((L.map aT).map .str) with | some ls => if (joinL [] ls).length ≤ lim then some (R.val (.str (joinL [] ls))) else none | none => none) = _
  rw [zeL]
  show (if (joinL [] (L.map aT)).length ≤ lim then _ else _) = _
  rw [e, if_pos hl]
theorem o_rev {l : List D} (h : l.length ≤ 3) : opF .slice3 [.list l, .none, .none, .int (-1)] = some (.own l.reverse) := by
  rcases l with _ | ⟨a, _ | ⟨b, _ | ⟨c, _ | ⟨d, r⟩⟩⟩⟩
  · kernel_rfl
  · kernel_rfl
  · kernel_rfl
  · kernel_rfl
  · exact absurd h (by simp)
set_option genInjectivity false in
structure NG (S : List Nat) (Ps : List (List Nat)) (n : Nat) (f : Nat → Slot) : Prop where
  b : B2 S f
  g6 : f 6 = .val (.list (Ps.map pD))
  g11 : f 11 = .val (.list (Ps.map wD))
  q : ∃ q, f 7 = .val (nI q)
  l : ∃ N : List (List Nat), f 12 = .own (N.map .str) ∧ (∀ x ∈ N, x ∈ nm5) ∧ N.length ≤ n ∧ (n = 0 ∨ N ≠ [])
theorem ng_turn {n : Nat} (hn : n ≤ 4) (I : NG S Ps n f) : ∃ f', ex cf ngB (LL f) = some (LL f', .next) ∧ NG S Ps (n + 1) f' := by
  obtain ⟨B, g6, g11, ⟨q, g7⟩, N, g12, hN, hl, h0⟩ := I
  have e12 : ev cf (.var 12) (LL f) = some [.bor (N.map .str)] := V_o rfl g12 rfl
  have c1 : evT cf (.or (.op .gt (.cons (.var 7) (.cons (.const (.int 0)) .nil))) (.op .eq (.cons (.var 12) (.cons (.list .nil) .nil)))) (LL f) = some (decide (0 < q) || decide (N = [])) :=
    T_of (V_or (V_op2 (V_v rfl g7) rfl o_gt0) (V_op2 (b := .own []) e12 rfl (zgn (a := N) (b := []))))
  cases hc : (decide (0 < q) || decide (N = [])) with
  | false =>
    rw [hc] at c1
    refine ⟨f, ?_, B, g6, g11, ⟨q, g7⟩, N, g12, hN, Nat.le_succ_of_le hl, .inr fun e => ?_⟩
    · unfold ngB
      exact R_seq (R_ite c1 (R_ff zan)) (zaf zan)
    · rw [decide_eq_true e, Bool.or_true] at hc; cases hc
  | true =>
    rw [hc] at c1
    have hm : q % 5 < 5 := Nat.mod_lt _ (by decide)
    have a : ev1 cf (.op .index (.cons (.tup (.cons (.const (.str [97])) (.cons (.const (.str [98])) (.cons (.const (.str [97, 98])) (.cons (.const (.str [98, 97])) (.cons (.const (.str [98, 98])) .nil)))))) (.cons (.op .mod (.cons (.var 7) (.cons (.const (.int 5)) .nil))) .nil))) (LL f) = some (.str (nm5.getD (q % 5) [])) :=
      E_of (V_op2 (a := .val (.tup (nm5.map D.str))) rfl (V_op2 (V_v rfl g7) rfl (o_mod (k := 5) (by decide))) (zeX (zf1 (l := nm5) hm []) (Nat.le_trans (Nat.le_of_lt hm) (by decide)))) rfl
    let f2 := upd f 12 (.own ((N ++ [nm5.getD (q % 5) []]).map .str))
    have ap : ex cf (.append 12 (.op .index (.cons (.tup (.cons (.const (.str [97])) (.cons (.const (.str [98])) (.cons (.const (.str [97, 98])) (.cons (.const (.str [98, 97])) (.cons (.const (.str [98, 98])) .nil)))))) (.cons (.op .mod (.cons (.var 7) (.cons (.const (.int 5)) .nil))) .nil)))) (LL f) = some (LL f2, .next) := by
      refine za0 (l := N.map .str) a ?_ ?_ ?_
      · show (match some (f 12) with | some (.own l) => if dSlot 12 then none else some l | _ => none) = _
        rw [g12]; rfl
      · rw [List.length_map]; exact Nat.lt_of_le_of_lt (Nat.le_trans hl hn) (by decide)
      · show _ = LL (upd f 12 (.own ((N ++ [nm5.getD (q % 5) []]).map .str)))
        rw [List.map_append]; rfl
    have g7' : ev1 cf (.op .fdiv (.cons (.var 7) (.cons (.const (.int 5)) .nil))) (LL f2) = some (nI (q / 5)) := E_of (V_op2 (V_v rfl (show f2 7 = _ from g7)) rfl (o_div (k := 5) (by decide))) rfl
    refine ⟨upd f2 7 (.val (nI (q / 5))), ?_, (B.upd fun _ => rfl).upd fun _ => rfl, g6, g11, ⟨_, rfl⟩, N ++ [nm5.getD (q % 5) []], rfl, fun x hx => ?_, by rw [List.length_append]; exact Nat.succ_le_succ hl, .inr fun e => by simp at e⟩
    · unfold ngB
      exact R_seq (R_ite c1 (R_tt (R_seq ap (zaf (R_seq (zak g7' rfl) (zaf zan)))))) (zaf zan)
    · rcases List.mem_append.mp hx with hx | hx
      · exact hN x hx
      · rw [List.mem_singleton.mp hx]; exact ze7 hm []
theorem ng_loop (I : NG S Ps 0 f) : ∃ f', forGo (put1 9) (ex cf ngB) ((List.range' 0 3).map nI) (LL f) = some (LL f', .next) ∧ NG S Ps 3 f' := by
  obtain ⟨_, e, f', rfl, I'⟩ := zcs (cf := cf) (i := 9) (b := ngB) (I := fun k ρ => ∃ f : Nat → Slot, ρ = LL f ∧ NG S Ps k f) (a := 0) (m := 3) (ρ := LL f) ⟨f, rfl, I⟩ fun k ρ _ hk J => by
    obtain ⟨f, rfl, B, g6, g11, q, l⟩ := J
    obtain ⟨f', e, I'⟩ := ng_turn (cf := cf) (f := upd f 9 (.val (nI k))) (by omega) ⟨B.upd fun _ => rfl, g6, g11, q, l⟩
    exact ⟨LL f', .next, e, .inl rfl, f', rfl, I'⟩
  exact ⟨f', e, I'⟩
set_option genInjectivity false in
structure TN (S : List Nat) (Ps N : List (List Nat)) (f : Nat → Slot) : Prop where
  b : B2 S f
  g6 : f 6 = .val (.list (Ps.map pD))
  g11 : f 11 = .val (.list (Ps.map wD))
  g12 : f 12 = .val (strsD N)
  g13 : f 13 = .val (.str (txt N))
theorem o_ones {α : Type} {l : List α} : opF .ne [.list (l.map fun _ => D.int 1), .list []] = some (.val (.bool (decide (l ≠ [])))) := by
  cases l with
  | nil => rfl
  | cons a l =>
    have e : eqD (.list ((a :: l).map fun _ => D.int 1)) (.list []) = some false := by
      show (if ((D.list ((a :: l).map fun _ => D.int 1)).ok 9 && (D.list []).ok 9) = true then some (PyData.eqv (D.list ((a :: l).map fun _ => D.int 1)).toPy (D.list []).toPy) else none) = _
      have h1 : (D.list ((a :: l).map fun _ => D.int 1)).ok 9 = true := zgl (fun _ => rfl) _
      rw [h1]
      show some (PyData.eqv (.list (D.toPys ((a :: l).map fun _ => D.int 1))) (.list [])) = _
      rw [PyData.eqv]
      show some (PyData.eqvAll (.int 1 :: D.toPys (l.map fun _ => D.int 1)) []) = _
      rw [PyData.eqvAll]
    show ((eqD (.list ((a :: l).map fun _ => D.int 1)) (.list [])).map (!·)).map (fun x => R.val (.bool x)) = _
    rw [e, decide_eq_true (by simp)]; rfl
theorem o_neb {p q : Bool} (h : p = q) : opF .ne [.bool p, .bool q] = some (.val (.bool false)) := by
  subst h
  cases p <;> rfl
open Classical in
theorem tn_turn (C : CF02 cf) {N : List (List Nat)} (HN : Nm2 N) (hP : ∀ L ∈ Ps, It L) {n : Nat} (hn : n < Ps.length) (h3 : n ≤ 1000000) (T : TN S Ps N f) : ∃ f', ex cf tnB (LL (upd f 14 (.val (nI n)))) = some (LL f', .next) ∧ TN S Ps N f' := by
  obtain ⟨B, g6, g11, g12, g13⟩ := T
  let L := Ps.getD n []
  have H : It L := hP L (ze7 hn [])
  obtain ⟨b, eb, hb⟩ := C.tk H HN
  let f1 := upd f 14 (.val (nI n))
  let f2 := upd f1 15 (.val (.bool b))
  have a15 : ev1 cf (.call 15 (.cons (.op .index (.cons (.var 11) (.cons (.var 14) .nil))) (.cons (.var 1) (.cons (.var 13) .nil)))) (LL f1) = some (.bool b) :=
    E_of (zb3 (zao (V_op2 (V_v rfl (show f1 11 = _ from g11)) (V_v rfl rfl) (zbE (zf1 hn []) h3)) (zao (V_v rfl (show f1 1 = _ from B.g1)) (zao (V_v rfl (show f1 13 = _ from g13)) rfl))) rfl eb) rfl
  let A := (SP L (N.length - 1)).filter fun t => decide (Mn t (txt N))
  have rev : ∀ {ρ : List Slot}, ρ[12]? = some (f2 12) → ev cf (.op .slice3 (.cons (.var 12) (.cons (.const .none) (.cons (.const .none) (.cons (.op .neg (.cons (.const (.int 1)) .nil)) .nil))))) ρ = some [.own (N.reverse.map .str)] := fun e =>
    V_op (zao (V_v e (show f2 12 = _ from g12)) (zao rfl (zao rfl (zao rfl rfl)))) ((o_rev (l := N.map .str) (by rw [List.length_map]; exact HN.len)).trans (by rw [List.map_reverse]))
  have a16 : ev1 cf (.comp 19 (.seqI (.call 21 (.cons (.op .index (.cons (.var 6) (.cons (.var 14) .nil))) (.cons (.op .sub (.cons (.op .len (.cons (.var 12) .nil)) (.cons (.const (.int 1)) .nil))) .nil)))) (.call 22 (.cons (.var 19) (.cons (.op .slice3 (.cons (.var 12) (.cons (.const .none) (.cons (.const .none) (.cons (.op .neg (.cons (.const (.int 1)) .nil)) .nil))))) (.cons (.var 1) (.cons (.var 2) .nil))))) (.const (.int 1))) (LL f2) = some (.list (A.map fun _ => .int 1)) := by
    refine E_of (zjl (g := txD) (v := fun _ => .int 1) (p := fun t => decide (Mn t (txt N))) (zf2 (zb3 (zao (V_op2 (V_v rfl (show f2 6 = _ from g6)) (V_v rfl rfl) (zbE (zf1 hn []) h3)) (zao (V_op2 (V_op1 (V_v rfl (show f2 12 = _ from g12)) (zio (g := D.str))) rfl (zin (b := 1) (List.length_pos_iff.mpr HN.ne))) rfl)) rfl (C.sp H HN)) rfl rfl) fun t ht => zf4 ?_ (fun _ => rfl) rfl) rfl
    obtain ⟨c, ec, hc⟩ := C.bn H HN ht
    have e : c = decide (Mn t (txt N)) := by
      rw [Bool.eq_iff_iff, decide_eq_true_eq]; exact hc
    rw [← e]
    exact zb3 (zao (V_v rfl rfl) (zao (rev rfl) (zao (V_v rfl (show f2 1 = _ from B.g1)) (zao (V_v rfl (show f2 2 = _ from B.g2)) rfl)))) rfl ec
  let f3 := upd f2 16 (.val (.list (A.map fun _ => .int 1)))
  have hA : b = decide (A ≠ []) := by
    rw [Bool.eq_iff_iff, decide_eq_true_eq, hb, heart H HN]
    constructor
    · rintro ⟨t, ht, hm⟩ e
      have : t ∈ A := List.mem_filter.mpr ⟨ht, decide_eq_true hm⟩
      rw [e] at this; cases this
    · intro h
      obtain ⟨t, ht⟩ := List.exists_mem_of_ne_nil _ h
      obtain ⟨h1, h2⟩ := List.mem_filter.mp ht
      exact ⟨t, h1, of_decide_eq_true h2⟩
  have c : evT cf (.op .ne (.cons (.var 15) (.cons (.op .ne (.cons (.var 16) (.cons (.list .nil) .nil))) .nil))) (LL f3) = some false :=
    T_of (V_op2 (V_v rfl rfl) (V_op2 (b := .own []) (V_v rfl rfl) rfl o_ones) (o_neb hA))
  have no : ∀ {i : Nat} {d : D}, (LL f2)[i]? = some (.val d) → ex cf (.fz i) (LL f2) = some (LL f2, .next) := fun {i d} e => zjm (by unfold ownAt; rw [e])
  refine ⟨f3, ?_, ((B.upd fun _ => rfl).upd fun _ => rfl).upd fun _ => rfl, g6, g11, g12, g13⟩
  unfold tnB
  exact R_seq (zak (ρ' := LL f2) a15 rfl) (zaf (R_seq (R_seq (no (i := 12) (congrArg some g12)) (zaf (R_seq (no (i := 6) (congrArg some g6)) (zaf (zak (ρ' := LL f3) a16 rfl))))) (zaf (R_seq (R_ite c (R_ff zan)) (zaf zan)))))
theorem tn_loop (C : CF02 cf) {N : List (List Nat)} (HN : Nm2 N) (hP : ∀ L ∈ Ps, It L) (h3 : Ps.length = 3) (T : TN S Ps N f) : ∃ f', forGo (put1 14) (ex cf tnB) ((List.range' 0 3).map nI) (LL f) = some (LL f', .next) ∧ TN S Ps N f' := by
  obtain ⟨_, e, f', rfl, I'⟩ := zcs (cf := cf) (i := 14) (b := tnB) (I := fun _ ρ => ∃ f : Nat → Slot, ρ = LL f ∧ TN S Ps N f) (a := 0) (m := 3) (ρ := LL f) ⟨f, rfl, T⟩ fun k ρ _ hk J => by
    obtain ⟨f, rfl, T⟩ := J
    rw [Nat.zero_add] at hk
    obtain ⟨f', e, T'⟩ := tn_turn C HN hP (h3 ▸ hk) (Nat.le_trans (Nat.le_of_lt hk) (by decide)) T
    exact ⟨LL f', .next, e, .inl rfl, f', rfl, T'⟩
  exact ⟨f', e, I'⟩
set_option genInjectivity false in
structure PL (S : List Nat) (Ps : List (List Nat)) (f : Nat → Slot) : Prop where
  b : B2 S f
  g6 : f 6 = .val (.list (Ps.map pD))
  g11 : f 11 = .val (.list (Ps.map wD))
theorem ph_turn (C : CF02 cf) (hS : S.length = 8) (hP : ∀ L ∈ Ps, It L) (h3 : Ps.length = 3) {k : Nat} (hk : k < 5) (T : PL S Ps f) : ∃ f', ex cf phB (LL (upd f 3 (.val (nI k)))) = some (LL f', .next) ∧ PL S Ps f' := by
  obtain ⟨B, g6, g11⟩ := T
  let v : Nat := S.getD (3 + k) 0 + ([0, 5, 38, 60, 99] : List Nat).getD k 0
  let f1 := upd (upd f 3 (.val (nI k))) 7 (.val (nI v))
  have i2 := zhZ (l := [0, 5, 38, 60, 99]) (k := k) hk (Nat.le_trans (Nat.le_of_lt hk) (by decide))
  have g4 : (upd f 3 (.val (nI k))) 4 = .val (.list (S.map nI)) := B.g4
  have a7 : ev1 cf (.op .add (.cons (.op .index (.cons (.var 4) (.cons (.op .add (.cons (.const (.int 3)) (.cons (.var 3) .nil))) .nil))) (.cons (.op .index (.cons (.tup (.cons (.const (.int 0)) (.cons (.const (.int 5)) (.cons (.const (.int 38)) (.cons (.const (.int 60)) (.cons (.const (.int 99)) .nil)))))) (.cons (.var 3) .nil))) .nil))) (LL (upd f 3 (.val (nI k)))) = some (nI v) :=
    E_of (V_op2 (V_op2 (V_v rfl g4) (V_op2 rfl (V_v rfl rfl) (zgW (a := 3))) (zkw (by rw [hS]; exact Nat.add_lt_add_left hk 3) (Nat.le_trans (Nat.add_le_add_left (Nat.le_of_lt hk) 3) (by decide)))) (V_op2 (a := .val (.tup (([0, 5, 38, 60, 99] : List Nat).map fun (n : Nat) => .int (n : Int)))) rfl (V_v rfl rfl) i2) (zgW (a := S.getD (3 + k) 0))) rfl
  have n1 : NA f1 := (B.na.upd fun _ => rfl).upd fun _ => rfl
  let f2 := upd f1 12 (.own [])
  obtain ⟨f3, e3, B3, h6, h11, _, N, h12, hN, hl, h0⟩ := ng_loop (cf := cf) (f := f2) (S := S) (Ps := Ps) ⟨((B.upd fun _ => rfl).upd fun _ => rfl).upd fun _ => rfl, g6, g11, ⟨v, rfl⟩, [], rfl, (fun _ h => nomatch h), Nat.le_refl _, .inl rfl⟩
  have HN : Nm2 N := ⟨hN, h0.resolve_left (by decide), hl⟩
  let f4 := upd f3 12 (.val (strsD N))
  let f5 := upd f4 13 (.val (.str (txt N)))
  have fz : ex cf (.fz 12) (LL f3) = some (LL f4, .next) := by
    refine R_fz (l := N.map .str) ?_ rfl
    show (match some (f3 12) with | some (.own l) => if dSlot 12 then none else some l | _ => none) = _
    rw [h12]; rfl
  have st : ev cf (.star (.var 12)) (LL f4) = some ((N.map .str).map R.val) := by
    rw [zaI, V_v (ρ := LL f4) (i := 12) rfl rfl]; rfl
  have a13 : ev1 cf (.call 4 (.star (.var 12))) (LL f4) = some (.str (txt N)) := E_of (zb3 st (zeB _) (C.jn HN)) rfl
  have rev : ev cf (.op .slice3 (.cons (.var 12) (.cons (.const .none) (.cons (.const .none) (.cons (.op .neg (.cons (.const (.int 1)) .nil)) .nil))))) (LL f5) = some [.own (N.reverse.map .str)] :=
    V_op (zao (V_v rfl rfl) (zao rfl (zao rfl (zao rfl rfl)))) ((o_rev (l := N.map .str) (by rw [List.length_map]; exact HN.len)).trans (by rw [List.map_reverse]))
  have same : opF .ne [strsD N.reverse, strsD N.reverse] = some (.val (.bool false)) := by
    have e : (eqD (nD N.reverse) (nD N.reverse)).map (fun x => R.val (.bool x)) = some (.val (.bool (decide (N.reverse = N.reverse)))) := zgn
    obtain ⟨x, e1, e2⟩ := Option.map_eq_some_iff.mp e
    show ((eqD (nD N.reverse) (nD N.reverse)).map (!·)).map (fun x => R.val (.bool x)) = _
    rw [e1]
    injection e2 with e2
    injection e2 with e2
    rw [e2, decide_eq_true rfl]; rfl
  have c : evT cf (.op .ne (.cons (.call 20 (.cons (.var 13) .nil)) (.cons (.op .slice3 (.cons (.var 12) (.cons (.const .none) (.cons (.const .none) (.cons (.op .neg (.cons (.const (.int 1)) .nil)) .nil))))) .nil))) (LL f5) = some false :=
    T_of (V_op2 (zb3 (zao (V_v rfl rfl) rfl) rfl (C.cl HN)) rev same)
  obtain ⟨f6, e6, T⟩ := tn_loop (f := f5) C HN hP h3 ⟨(B3.upd fun _ => rfl).upd fun _ => rfl, h6, h11, rfl, rfl⟩
  refine ⟨f6, ?_, T.b, T.g6, T.g11⟩
  unfold ngB at e3
  unfold tnB at e6
  unfold phB
  exact R_seq (zak (ρ' := LL f1) a7 rfl) (zaf (R_seq (zaF (ρ' := LL f2) (zis n1) (l := []) rfl rfl) (zaf (R_seq (R_for (I_of (zbV (zao rfl rfl) (zbs (n := 3) (by decide)))) e3) (zaf (R_seq (R_seq fz (zaf (zak (ρ' := LL f5) a13 rfl))) (zaf (R_seq (R_ite c (R_ff zan)) (zaf (R_seq (R_for (I_of (zbV (zao rfl rfl) (zbs (n := 3) (by decide)))) e6) (zaf zan)))))))))))
theorem ph_loop (C : CF02 cf) (hS : S.length = 8) (hP : ∀ L ∈ Ps, It L) (h3 : Ps.length = 3) (T : PL S Ps f) : ∃ f', forGo (put1 3) (ex cf phB) ((List.range' 0 5).map nI) (LL f) = some (LL f', .next) := by
  obtain ⟨_, e, f', rfl, _⟩ := zcs (cf := cf) (i := 3) (b := phB) (I := fun _ ρ => ∃ f : Nat → Slot, ρ = LL f ∧ PL S Ps f) (a := 0) (m := 5) (ρ := LL f) ⟨f, rfl, T⟩ fun k ρ _ hk J => by
    obtain ⟨f, rfl, T⟩ := J
    rw [Nat.zero_add] at hk
    obtain ⟨f', e, T'⟩ := ph_turn C hS hP h3 hk T
    exact ⟨LL f', .next, e, .inl rfl, f', rfl, T'⟩
  exact ⟨f', e⟩
end
noncomputable def S02 (ns : List Int) (k : Nat) : Nat := (pick ns (some (k : Int)) none (some 8)).sum.natAbs
theorem zhB (ns : List Int) : ∃ ρ', ex (callF fns02 40) s_law [.val (.list (ns.map .int)), .val (.tok 0), .val (.tok 2), .unset, .unset, .unset, .unset, .unset, .unset, .unset, .unset, .unset, .unset, .unset, .unset, .unset, .unset, .unset, .unset, .unset] = some (ρ', .ret (.bool true)) := by
  have C := cf02
  generalize callF fns02 40 = cf at C
  let f0 : Nat → Slot := fun k => if k = 0 then .val (.list (ns.map .int)) else if k = 1 then .val (.tok 0) else if k = 2 then .val (.tok 2) else .unset
  have n0 : NA f0 := fun i k => by
    show appOK k (if i = 0 then _ else if i = 1 then _ else if i = 2 then _ else _) = true
    split
    · rfl
    · split
      · rfl
      · split <;> rfl
  let S := (List.range' 0 8).map (S02 ns)
  let f1 := upd f0 4 (.val (.list (S.map nI)))
  have a4 : ev1 cf (.comp 17 (.rangeI (.cons (.const (.int 8)) .nil)) (.const (.bool true)) (.op .abs (.cons (.op .sum (.cons (.op .slice3 (.cons (.var 0) (.cons (.var 17) (.cons (.const .none) (.cons (.const (.int 8)) .nil))))) .nil)) .nil))) (LL f0) = some (.list (S.map nI)) := by
    refine E_of (a := .own (S.map nI)) ?_ rfl
    rw [show S.map nI = (List.range' 0 8).map fun k => nI (S02 ns k) from List.map_map]
    refine zfh (g := nI) (zbV (zao rfl rfl) (zbs (n := 8) (by decide))) fun k hk => ⟨_, V_op1 (V_op1 (V_op (zao rfl (zao (V_v rfl rfl) (zao rfl (zao rfl rfl)))) (zjL (ns := ns) (k := k) (n := 8) ?_ (by decide) (by decide))) o_sumi) o_absi, rfl⟩
    have := (List.mem_range'_1.mp hk).2
    rw [Nat.zero_add] at this
    exact Nat.le_trans (Nat.le_of_lt this) (by decide)
  let f2 := upd f1 6 (.own [])
  have n1 : NA f1 := n0.upd fun _ => rfl
  have B1 : B2 S f1 := ⟨rfl, rfl, rfl, n1⟩
  have hS : S.length = 8 := by rw [List.length_map]; rfl
  obtain ⟨f3, e3, B3, ⟨Ps, g6, hP, h3⟩, g8⟩ := pt_loop (cf := cf) (f := f2) hS ⟨B1.upd fun _ => rfl, ⟨[], rfl, (fun _ h => nomatch h), rfl⟩, .inl rfl⟩
  obtain ⟨d8, g8⟩ := g8.resolve_left (by decide)
  let f4 := upd f3 6 (.val (.list (Ps.map pD)))
  have fz : ex cf (.fz 6) (LL f3) = some (LL f4, .next) := by
    refine R_fz (l := Ps.map pD) ?_ rfl
    show (match some (f3 6) with | some (.own l) => if dSlot 6 then none else some l | _ => none) = _
    rw [g6]; rfl
  have fz8 : ex cf (.fz 8) (LL f4) = some (LL f4, .next) := zjm (by
    show (match some (f3 8) with | some (.own l) => if dSlot 8 then none else some l | _ => none) = _
    rw [g8])
  let f5 := upd f4 11 (.val (.list (Ps.map wD)))
  have B4 : B2 S f4 := B3.upd fun _ => rfl
  have a11 : ev1 cf (.comp 18 (.seqI (.var 6)) (.const (.bool true)) (.call 1 (.cons (.op .join (.cons (.const (.str [])) (.cons (.var 18) .nil))) (.cons (.var 1) (.cons (.const (.str [46])) .nil))))) (LL f4) = some (.list (Ps.map wD)) :=
    E_of (zfh (g := pD) (v := wD) (zf2 (V_v rfl rfl) rfl rfl) fun L hL => ⟨_, zb3 (zao (V_op2 rfl (V_v rfl rfl) (o_join (hP L hL))) (zao (V_v rfl (show f4 1 = _ from B4.g1)) (zao rfl rfl))) rfl (C.tr (hP L hL)), rfl⟩) rfl
  obtain ⟨f6, e6⟩ := ph_loop (f := f5) C hS hP h3 ⟨B4.upd fun _ => rfl, rfl, rfl⟩
  show ∃ ρ', ex cf s_law (LL f0) = _
  unfold ptB at e3
  unfold phB at e6
  unfold s_law
  exact ⟨LL f6, R_seq (zak (ρ' := LL f1) a4 rfl) (zaf (R_seq (zaF (ρ' := LL f2) (zis n1) (l := []) rfl rfl) (zaf (R_seq (R_for (I_of (zbV (zao rfl rfl) (zbs (n := 3) (by decide)))) e3) (zaf (R_seq (R_seq fz (zaf (R_seq fz8 (zaf (zak (ρ' := LL f5) a11 rfl))))) (zaf (R_seq (R_for (I_of (zbV (zao rfl rfl) (zbs (n := 5) (by decide)))) e6) (zaf (R_seq (R_ret rfl) zai))))))))))⟩
end Mine
end
open PySem PySem.Calls PyProof.Rows PySem.Builtin.Str PySem.W PySem.W.X PySem.W.ZRun
namespace Mine
noncomputable abbrev fa02 : Nat → Addr := fun i => ([55, 62, 135, 149, 156, 163, 0, 0, 0, 0, 0, 0, 0, 0, 170, 175, 0, 0, 0, 0, 182, 187, 194, 0, 0, 0, 0, 0, 0, 0, 0, 0, 0, 0, 0, 199] : List Addr).getD i 0
theorem zd0 {β : Type} {x : Nat} {b : β} : ∀ {l : List (Nat × β)}, l.lookup x = some b → (x, b) ∈ l
  | [], e => by cases e
  | (y, c) :: r, e => by
    rw [List.lookup_cons] at e
    cases hx : x == y with
    | true =>
      rw [hx] at e
      cases e
      rw [beq_iff_eq.mp hx]
      exact List.mem_cons_self
    | false =>
      rw [hx] at e
      exact List.mem_cons_of_mem _ (zd0 e)
noncomputable def rho02 (ns : List Int) : List Slot := [.val (.list (ns.map .int))] ++ List.replicate 19 .unset
noncomputable abbrev cq02 (w : World) (h : Heap) (mg mb : SV) (T : NAd) : XCx := mkCx PySem.Challenge.rw_dn0069_02.row.prog w h 61 57 qs02 mg mb fa02 T
noncomputable abbrev cc02 (w : World) (h : Heap) (mg mb : SV) (T : NAd) : XCx := (cq02 w h mg mb fun k => k).withC T cp02.dom cv02 ck02
theorem zgf (ns : List Int) : PlainRho (rho02 ns) := by
  intro j
  match j with
  | 0 => exact .inr ⟨ns, rfl⟩
  | j + 1 =>
    left
    unfold slotAt rho02
    rw [List.getD_eq_getElem?_getD, List.singleton_append, List.getElem?_cons_succ, List.getElem?_replicate]
    split <;> rfl
theorem zhA (ns : List Int) : ∃ ρ', ex (callF fns02 40) s_law (((rho02 ns).set 1 (.val (.tok 0))).set 2 (.val (.tok 2))) = some (ρ', .ret (.bool true)) :=
  zhB ns
end Mine
set_option maxHeartbeats 0 in
theorem PySem.Challenge.cw_dn0069_02_holds : PySem.Challenge.rw_dn0069_02.Holds := by
  w_on; refine holds_law Mine.said02 fun said => ?_
  refine holds_openX (q := Mine.view02) (loose := [PySem.Str.ofString "_twin_re_1", PySem.Str.ofString "_special_chars_map"]) (Xt := fun s => xlAt Mine.view02 [] s && recOk (RowW.records PySem.Challenge.rw_dn0069_02.row.toRowW) s) (XP := XL Mine.view02 []) (Yf := obsZ Mine.zas) (Ya := valZ Mine.zk 200 702) (N := 4988) ?hl (fun s e => xl_of s (Bool.and_eq_true_iff.mp e).1) XL.keeps (by rfl) (by rfl) (by rfl) (fun s e => recFacts_of (Bool.and_eq_true_iff.mp e).2) (by rfl) (by first | assumption | decide +kernel) (by decide +kernel) ⟨rfl, rfl, rfl, rfl, rfl, by decide +kernel⟩ ?hw ?hc
  case hl => exact Mine.hleft
  case hw => w_witness2
  k_fill
  intro w s₀ s₁ mg mb G y fa o pm cd doc dV kV ho hd hcd hD hmg hg args vals as hL0 hpre hlay hrd hwl hlo
  have Zf := z_facts Mine.zkeys y
  have KX := InK.keeps w s₀.heap s₁.heap Zf.2.1 hL0.keeps
  have ZN := Zf.2.2.1
  refine Ground.open G ?_
  intro T0 B D TE TW
  wrow_args hpre hlay hrd hwl hlo
  obtain ⟨hat, hsz⟩ := script_at hL0
  rw [ZN] at hat hsz
  subst hat
  have hfa := Value.ref.inj (Option.some.inj (hmg.symm.trans (mg_of (v := .ref 199) KX T0.g rfl)))
  subst hfa
  refine enter_call ?_
  have hT : TabsAt [(61, 57)] s₁.heap := List.forall_mem_cons.mpr ⟨⟨codeHd_of_K KX (by kernel_rfl), KX 57 _ rfl⟩, fun _ h => nomatch h⟩
  have X := Mine.zfO (c := 61) (P := 57) KX
  rename IntsAre _ _ => hI
  rename Heap.IsList _ _ _ => hIL
  rename List Int => ns
  have hlen := hI.length
  have hobj := script_obj hL0 hIL
  have hcx : ∀ T, Mine.Inj T → Mine.CxOk (Mine.cq02 w s₁.heap mg mb T) := fun T1 h1 => Mine.cxOk_of hT X T0 (by decide +kernel) rfl (by rfl) h1
  have hx0 : ∀ a o, (ghostOf s₁.heap [(61, 57)]).get? a = some o → ¬ a = 57 := fun a o e => Mine.zcx e
  have hnx : ∀ T, Mine.OkT (Mine.cq02 w s₁.heap mg mb fun k => k) T → ∀ (a : Addr) o, (ghostOf s₁.heap [(61, 57)]).get? a = some o → ¬ (Mine.cc02 w s₁.heap mg mb T).X a := fun T h a o e => Mine.nxC (cx := (Mine.cq02 w s₁.heap mg mb fun k => k)) hx0 h e
  have hN : ∀ T, Mine.GN (Mine.cc02 w s₁.heap mg mb T) Mine.fs02 Mine.bs02 := fun T => Mine.gn_of (List.forall_mem_cons.mpr ⟨mg_of KX T0.g rfl, List.forall_mem_cons.mpr ⟨mg_of KX T0.g rfl, List.forall_mem_cons.mpr ⟨mg_of KX T0.g rfl, List.forall_mem_cons.mpr ⟨mg_of KX T0.g rfl, List.forall_mem_cons.mpr ⟨mg_of KX T0.g rfl, List.forall_mem_cons.mpr ⟨mg_of KX T0.g rfl, List.forall_mem_cons.mpr ⟨mg_of KX T0.g rfl, List.forall_mem_cons.mpr ⟨mg_of KX T0.g rfl, List.forall_mem_cons.mpr ⟨mg_of KX T0.g rfl, List.forall_mem_cons.mpr ⟨mg_of KX T0.g rfl, List.forall_mem_cons.mpr ⟨mg_of KX T0.g rfl, List.forall_mem_cons.mpr ⟨mg_of KX T0.g rfl, fun _ h => nomatch h⟩⟩⟩⟩⟩⟩⟩⟩⟩⟩⟩⟩) (List.forall_mem_cons.mpr ⟨mg_none_of KX T0.g rfl, List.forall_mem_cons.mpr ⟨mg_none_of KX T0.g rfl, List.forall_mem_cons.mpr ⟨mg_none_of KX T0.g rfl, List.forall_mem_cons.mpr ⟨mg_none_of KX T0.g rfl, List.forall_mem_cons.mpr ⟨mg_none_of KX T0.g rfl, List.forall_mem_cons.mpr ⟨mg_none_of KX T0.g rfl, List.forall_mem_cons.mpr ⟨mg_none_of KX T0.g rfl, List.forall_mem_cons.mpr ⟨mg_none_of KX T0.g rfl, List.forall_mem_cons.mpr ⟨mg_none_of KX T0.g rfl, List.forall_mem_cons.mpr ⟨mg_none_of KX T0.g rfl, List.forall_mem_cons.mpr ⟨mg_none_of KX T0.g rfl, List.forall_mem_cons.mpr ⟨mg_none_of KX T0.g rfl, List.forall_mem_cons.mpr ⟨mg_none_of KX T0.g rfl, List.forall_mem_cons.mpr ⟨mg_none_of KX T0.g rfl, List.forall_mem_cons.mpr ⟨mg_none_of KX T0.g rfl, List.forall_mem_cons.mpr ⟨mg_none_of KX T0.g rfl, fun _ h => nomatch h⟩⟩⟩⟩⟩⟩⟩⟩⟩⟩⟩⟩⟩⟩⟩⟩)
  have hsp : mg (PySem.Str.ofString "_special_chars_map") = some (.ref 45) := mg_of KX T0.g rfl
  have htw : mg (PySem.Str.ofString "_twin_re_1") = some (.ref 43) := mg_of KX T0.g rfl
  have hTG : ∀ T, Mine.OkT (Mine.cq02 w s₁.heap mg mb fun k => k) T → ∃ TG : Mine.TabG (Mine.cc02 w s₁.heap mg mb T), TG.d = 45 := fun T hO => Mine.tabG_of X (hnx T hO 45 _ (X 45 _ rfl)) rfl rfl (by decide +kernel) (by decide +kernel)
  have hPG : ∀ T, Mine.OkT (Mine.cq02 w s₁.heap mg mb fun k => k) T → ∃ PG : Mine.PatG (Mine.cc02 w s₁.heap mg mb T), PG.P = 43 := fun T hO => ⟨{ P := 43, C := 42, codes := _, nP := (hnx T hO 43 _ (X 43 _ rfl)), nC := (hnx T hO 42 _ (X 42 _ rfl)), at0 := ⟨⟨_, _, _, _, _, 0, X 43 _ rfl, rfl⟩, ⟨_, X 42 _ rfl⟩, by decide +kernel⟩ }, rfl⟩
  have hCG : ∀ T, Mine.OkT (Mine.cq02 w s₁.heap mg mb fun k => k) T → Mine.CacheG (Mine.cc02 w s₁.heap mg mb T) Mine.cp02 := fun T hO => Mine.cacheG (cx := (Mine.cq02 w s₁.heap mg mb fun k => k)) Mine.cp02 Mine.dl02 hO (fun F h h' hF x hk => x.mono (fun _ h => h) fun a o q e => hk a o (q.elim (hF a) fun e1 e2 => hO.nx (e2.symm.trans e1)) e) (fun cf h => h)
  have hfn : ∀ T, Mine.OkT (Mine.cq02 w s₁.heap mg mb fun k => k) T → ∀ i fn, Mine.fns02 i = some fn → ∃ ε fd body ps, Mine.FnIs (Mine.cc02 w s₁.heap mg mb T) ε i fn fd body ps ∧ Mine.SoundSs (Mine.cc02 w s₁.heap mg mb T) ε body fn.body := by
    intro T hO
    obtain ⟨TG, hTGd⟩ := hTG T hO
    obtain ⟨PG, hPGP⟩ := hPG T hO
    have all : ∀ p ∈ ([(0, Mine.fn_escape), (1, Mine.fn_translate2), (2, Mine.fn_fspath), (3, Mine.fn_get_sep), (4, Mine.fn_join), (5, Mine.fn_split), (14, Mine.fn_law_one), (15, Mine.fn_law_takes), (20, Mine.fn_law_climb), (21, Mine.fn_law_spread), (22, Mine.fn_law_by_names)] : List (Nat × Mine.Fn)), ∃ ε fd body ps, Mine.FnIs (Mine.cc02 w s₁.heap mg mb T) ε p.1 p.2 fd body ps ∧ Mine.SoundSs (Mine.cc02 w s₁.heap mg mb T) ε body p.2.body :=
      List.forall_mem_cons.mpr ⟨⟨_, _, _, _, Mine.FnIs.ofK (cx := (Mine.cc02 w s₁.heap mg mb T)) (ε := Mine.sc_escape) (i := 0) (a := 55) (fn := Mine.fn_escape) (body := (Mine.nthBody PySem.Challenge.pw_dn0069_02 5)) (ps := [PySem.Str.ofString "pattern"]) X rfl (hnx T hO 55 _ (X 55 _ rfl)) rfl (by rfl) (hnx T hO _ _ (X _ _ rfl)) (fun c q e => nomatch e) (Mine.zaQ rfl (Mine.len1 fun _ => rfl)) rfl rfl rfl rfl rfl, Mine.zhq (hN T) TG (hTGd ▸ hsp)⟩,
      List.forall_mem_cons.mpr ⟨⟨_, _, _, _, Mine.FnIs.ofK (cx := (Mine.cc02 w s₁.heap mg mb T)) (ε := Mine.sc_translate2 61) (i := 1) (a := 62) (fn := Mine.fn_translate2) (body := (Mine.nthBody PySem.Challenge.pw_dn0069_02 7)) (ps := [PySem.Str.ofString "pat", PySem.Str.ofString "STAR", PySem.Str.ofString "QUESTION_MARK"]) X rfl (hnx T hO 62 _ (X 62 _ rfl)) rfl (by rfl) (hnx T hO _ _ (X _ _ rfl)) (fun c q e => by cases e; exact ⟨rfl, rfl⟩) (Mine.zaQ rfl (Mine.len3 fun _ _ _ => rfl)) rfl rfl rfl rfl rfl, Mine.zee (hN T) (Mine.LamG.withC (cx := (Mine.cq02 w s₁.heap mg mb fun k => k)) hx0 (Mine.lamG_of hT T0 (List.pairwise_singleton _ _)) hO) PG (hPGP ▸ htw) rfl⟩,
      List.forall_mem_cons.mpr ⟨⟨_, _, _, _, Mine.FnIs.ofK (cx := (Mine.cc02 w s₁.heap mg mb T)) (ε := Mine.sc_fspath) (i := 2) (a := 135) (fn := Mine.fn_fspath) (body := (Mine.nthBody PySem.Challenge.pw_dn0069_02 16)) (ps := [PySem.Str.ofString "path"]) X rfl (hnx T hO 135 _ (X 135 _ rfl)) rfl (by rfl) (hnx T hO _ _ (X _ _ rfl)) (fun c q e => nomatch e) (Mine.zaQ rfl (Mine.len1 fun _ => rfl)) rfl rfl rfl rfl rfl, Mine.zhp (hN T)⟩,
      List.forall_mem_cons.mpr ⟨⟨_, _, _, _, Mine.FnIs.ofK (cx := (Mine.cc02 w s₁.heap mg mb T)) (ε := Mine.sc_get_sep) (i := 3) (a := 149) (fn := Mine.fn_get_sep) (body := (Mine.nthBody PySem.Challenge.pw_dn0069_02 20)) (ps := [PySem.Str.ofString "path"]) X rfl (hnx T hO 149 _ (X 149 _ rfl)) rfl (by rfl) (hnx T hO _ _ (X _ _ rfl)) (fun c q e => nomatch e) (Mine.zaQ rfl (Mine.len1 fun _ => rfl)) rfl rfl rfl rfl rfl, Mine.zgd (hN T)⟩,
      List.forall_mem_cons.mpr ⟨⟨_, _, _, _, Mine.FnIs.ofK (cx := (Mine.cc02 w s₁.heap mg mb T)) (ε := Mine.sc_join) (i := 4) (a := 156) (fn := Mine.fn_join) (body := (Mine.nthBody PySem.Challenge.pw_dn0069_02 21)) (ps := [PySem.Str.ofString "a", PySem.Str.ofString "p"]) X rfl (hnx T hO 156 _ (X 156 _ rfl)) rfl (by rfl) (hnx T hO _ _ (X _ _ rfl)) (fun c q e => nomatch e) (Mine.zjf rfl rfl fun v r => by cases r <;> kernel_rfl) rfl rfl rfl rfl rfl, Mine.zjw (hN T)⟩,
      List.forall_mem_cons.mpr ⟨⟨_, _, _, _, Mine.FnIs.ofK (cx := (Mine.cc02 w s₁.heap mg mb T)) (ε := Mine.sc_split) (i := 5) (a := 163) (fn := Mine.fn_split) (body := (Mine.nthBody PySem.Challenge.pw_dn0069_02 22)) (ps := [PySem.Str.ofString "p"]) X rfl (hnx T hO 163 _ (X 163 _ rfl)) rfl (by rfl) (hnx T hO _ _ (X _ _ rfl)) (fun c q e => nomatch e) (Mine.zaQ rfl (Mine.len1 fun _ => rfl)) rfl rfl rfl rfl rfl, Mine.zh9 (hN T)⟩,
      List.forall_mem_cons.mpr ⟨⟨_, _, _, _, Mine.FnIs.ofK (cx := (Mine.cc02 w s₁.heap mg mb T)) (ε := Mine.sc_law_one) (i := 14) (a := 170) (fn := Mine.fn_law_one) (body := (Mine.nthBody PySem.Challenge.pw_dn0069_02 24)) (ps := [PySem.Str.ofString "part", PySem.Str.ofString "sign"]) X rfl (hnx T hO 170 _ (X 170 _ rfl)) rfl (by rfl) (hnx T hO _ _ (X _ _ rfl)) (fun c q e => nomatch e) (Mine.zaQ rfl (Mine.len2 fun _ _ => rfl)) rfl rfl rfl rfl rfl, Mine.zgc (hN T)⟩,
      List.forall_mem_cons.mpr ⟨⟨_, _, _, _, Mine.FnIs.ofK (cx := (Mine.cc02 w s₁.heap mg mb T)) (ε := Mine.sc_law_takes) (i := 15) (a := 175) (fn := Mine.fn_law_takes) (body := (Mine.nthBody PySem.Challenge.pw_dn0069_02 25)) (ps := [PySem.Str.ofString "parts", PySem.Str.ofString "star", PySem.Str.ofString "name"]) X rfl (hnx T hO 175 _ (X 175 _ rfl)) rfl (by rfl) (hnx T hO _ _ (X _ _ rfl)) (fun c q e => nomatch e) (Mine.zaQ rfl (Mine.len3 fun _ _ _ => rfl)) rfl rfl rfl rfl rfl, Mine.zeT (hN T)⟩,
      List.forall_mem_cons.mpr ⟨⟨_, _, _, _, Mine.FnIs.ofK (cx := (Mine.cc02 w s₁.heap mg mb T)) (ε := Mine.sc_law_climb) (i := 20) (a := 182) (fn := Mine.fn_law_climb) (body := (Mine.nthBody PySem.Challenge.pw_dn0069_02 26)) (ps := [PySem.Str.ofString "text"]) X rfl (hnx T hO 182 _ (X 182 _ rfl)) rfl (by rfl) (hnx T hO _ _ (X _ _ rfl)) (fun c q e => nomatch e) (Mine.zaQ rfl (Mine.len1 fun _ => rfl)) rfl rfl rfl rfl rfl, Mine.zeU (hN T)⟩,
      List.forall_mem_cons.mpr ⟨⟨_, _, _, _, Mine.FnIs.ofK (cx := (Mine.cc02 w s₁.heap mg mb T)) (ε := Mine.sc_law_spread) (i := 21) (a := 187) (fn := Mine.fn_law_spread) (body := (Mine.nthBody PySem.Challenge.pw_dn0069_02 27)) (ps := [PySem.Str.ofString "items", PySem.Str.ofString "slashes"]) X rfl (hnx T hO 187 _ (X 187 _ rfl)) rfl (by rfl) (hnx T hO _ _ (X _ _ rfl)) (fun c q e => nomatch e) (Mine.zaQ rfl (Mine.len2 fun _ _ => rfl)) rfl rfl rfl rfl rfl, Mine.zef (hN T)⟩,
      List.forall_mem_cons.mpr ⟨⟨_, _, _, _, Mine.FnIs.ofK (cx := (Mine.cc02 w s₁.heap mg mb T)) (ε := Mine.sc_law_by_names) (i := 22) (a := 194) (fn := Mine.fn_law_by_names) (body := (Mine.nthBody PySem.Challenge.pw_dn0069_02 28)) (ps := [PySem.Str.ofString "text", PySem.Str.ofString "names", PySem.Str.ofString "star", PySem.Str.ofString "lists"]) X rfl (hnx T hO 194 _ (X 194 _ rfl)) rfl (by rfl) (hnx T hO _ _ (X _ _ rfl)) (fun c q e => nomatch e) (Mine.zaQ rfl (Mine.len4 fun _ _ _ _ => rfl)) rfl rfl rfl rfl rfl, Mine.zdx (hN T) (hCG T hO)⟩,
      fun _ h => nomatch h⟩⟩⟩⟩⟩⟩⟩⟩⟩⟩⟩
    exact fun i fn h => all (i, fn) (Mine.zd0 h)
  obtain ⟨ρ', he⟩ := Mine.zhA ns
  have hX : ∀ T, Mine.FnIs (Mine.cq02 w s₁.heap mg mb T) Mine.sc_law 35 Mine.fn_law _ (Mine.nthBody PySem.Challenge.pw_dn0069_02 29) [PySem.Str.ofString "script"] := fun T => Mine.FnIs.ofK (cx := (Mine.cq02 w s₁.heap mg mb T)) (ε := Mine.sc_law) (i := 35) (a := 199) (fn := Mine.fn_law) (body := (Mine.nthBody PySem.Challenge.pw_dn0069_02 29)) (ps := [PySem.Str.ofString "script"]) X rfl (Nat.ne_of_beq_eq_false rfl) rfl (by rfl) (Nat.ne_of_beq_eq_false rfl) (fun c q e => nomatch e) (Mine.zaQ rfl (Mine.len1 fun _ => rfl)) rfl rfl rfl rfl rfl
  refine Mine.zjY (cx := (Mine.cq02 w s₁.heap mg mb fun k => k)) (dom := Mine.cp02.dom) (cv := Mine.cv02) (ck := Mine.ck02) hx0 trivial hcx (i := 35) (i1 := 1) (i2 := 2) (n := 40) hX (fun T hO => Mine.zfc (Mine.CxOk.withC (cx := (Mine.cq02 w s₁.heap mg mb fun k => k)) hx0 (hcx T hO.inj) hO) (hfn T hO) Mine.hk02 40) (fun T => Mine.zbb (x := PySem.Str.ofString "star") rfl (by decide) (Mine.zaN (.cons (Mine.zab rfl) rfl .nil)) (fun _ _ _ => rfl)) rfl (by decide) (fun _ => rfl) (fun T hO => Mine.snd_law (hN T)) (ns := ns) (ρ := Mine.rho02 ns) rfl (Mine.zgf ns) rfl (Nat.le_of_ble_eq_true rfl) he (s := s₁) (F := fun a => ∃ o, (ghostOf s₁.heap [(61, 57)]).get? a = some o) ⟨rfl, by decide, by decide, ⟨_, rfl⟩⟩ (Mine.wd_of hT rfl hg) ?_ (fun T F' s' hO wd os => Mine.ziQ hT (fun _ => rfl) (by wrow_post) wd.xi.1 (fun b o e => wd.base b o e (hnx T hO b o e)) wd.gens os)
  exact .list ⟨_, ghost_ne hobj (by simp)⟩ hobj (by rw [hlen]; unfold Mine.lim; omega) (Mine.zg2 hI)
