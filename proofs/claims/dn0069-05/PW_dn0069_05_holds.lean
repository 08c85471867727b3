import PyProof.Rows.All
import Wide.All
import OpenK.AllK
import Wide.FinOn
import Lean
import PySem.Challenge.RW_dn0069_05
set_option Elab.async false
set_option maxRecDepth 100000
set_option linter.all false
set_option genSizeOf false
set_option bootstrap.genMatcherCode false
section H05x
open PySem PySem.Calls PySem.W PyProof.Rows PySem.Builtin.Str
open PySem.W.X PySem.W.ZRun
set_option maxHeartbeats 0
namespace Mine
theorem wb {M : PySem.Model} {A : PySem.Around} {α β : Type} {E : PySem.Value → PySem.Shared → Prop} {s : PySem.Shared} {m : PySem.Sem α} {f : α → PySem.Sem β} {Q : β → PySem.Shared → Prop} (h : PySem.wpAny M A m (fun a s' => PySem.wpAny M A (f a) Q E s') E s) : PySem.wpAny M A (m >>= f) Q E s := PySem.wpAny_bind h
abbrev VP := PySem.Value → PySem.Shared → Prop
abbrev AP := PySem.Addr → Prop
abbrev SV := PySem.Str → Option PySem.Value
abbrev NAd := Nat → PySem.Addr
noncomputable abbrev tuO (x : Array PySem.Value) : Obj := ⟨.type "tuple",none,.seq x 0, #[]⟩
variable (P : Params)
noncomputable def hGo : List Nat → Option Stmt → Option Stmt
 | [],s => s
 | j :: r,some (.ClassDef _ _ _ b _ _ _ _ _ _ _) => hGo r b[j]?
 | j :: r,some (.FunctionDef _ _ b _ _ _ _ _ _ _) => hGo r b[j]?
 | _,_ => none
noncomputable def hAt (p : Program) (l : List Nat) : Option Stmt := match l with
 | [] => none
 | i :: r => hGo r p.main.body[i]?
noncomputable def hPs (s : Option Stmt) : Arguments := match s with
 | some (.FunctionDef _ a _ _ _ _ _ _ _ _) => a
 | _ => default
noncomputable def hBd (s : Option Stmt) : List Stmt := match s with
 | some (.FunctionDef _ _ b _ _ _ _ _ _ _) => b
 | _ => []
noncomputable def hSc (s : Option Stmt) : Scope := match s with
 | some (.FunctionDef _ _ _ _ _ _ s _ _ _) => s
 | _ => default
noncomputable abbrev hs (x : String) : PySem.Str := PySem.Str.ofString x
noncomputable abbrev hk (P : Params) (x : String) (t : Nat) (v : PySem.Value) : DictEntry := ⟨PyData.keyHash P (hs x),.str (hs x) t,v⟩
noncomputable abbrev hW : Program := PySem.Challenge.pw_dn0069_05
noncomputable def view05 : Program := PySem.W.view PySem.Challenge.pw_dn0069_05 [0,1,3,5,7,8,10,12,14,15,16,17,18,19,20,21,23,24,26,28,29,30,31,32,33,34,35]
noncomputable def ho1 : Obj := ⟨.type "dict",none,.dict #[hk P "builtins" 162 (.ref 4),hk P "__main__" 163 (.ref 5),hk P "_sre" 244 (.ref 12)] 3, #[]⟩
noncomputable def ho2 : Obj := ⟨.none,none,.dict #[⟨PyData.keyHash P (⟨#[105,109,112,111,114,116,46,108,111,97,100,101,100,46,95,115,114,101]⟩),.str (⟨#[105,109,112,111,114,116,46,108,111,97,100,101,100,46,95,115,114,101]⟩) 183,.bool true⟩,hk P "class._frozen_importlib.BuiltinImporter" 185 (.ref 14),⟨PyData.keyHash P (⟨#[119,97,116,99,104,101,100,46,105,109,112,111,114,116]⟩),.str (⟨#[119,97,116,99,104,101,100,46,105,109,112,111,114,116]⟩) 206,.ref 18⟩,hk P "class._frozen_importlib.ModuleSpec" 216 (.ref 22),hk P "sys.modules.booked-epoch" 245 (.int (3) 0),⟨PyData.keyHash P (⟨#[105,109,112,111,114,116,46,108,97,116,101,114,45,108,97,105,100,46,95,115,114,101]⟩),.str (⟨#[105,109,112,111,114,116,46,108,97,116,101,114,45,108,97,105,100,46,95,115,114,101]⟩) 270,.bool true⟩,hk P "watched.library" 272 (.ref 27),⟨PyData.keyHash P (hs "watched.library-objects"),.str (hs "watched.library-objects") 0,.str ((⟨#[12]⟩ : PySem.Str)) 0⟩,⟨PyData.keyHash P (hs "watched.library-deep._sre"),.str (hs "watched.library-deep._sre") 273,.str ((⟨#[4,0,0,11,4,0,0,11,4,0,0,3,4,0,0,11,8,4,100,105,99,116,2]⟩ : PySem.Str)) 0⟩] 9, #[]⟩
noncomputable def ho3 : Obj := ⟨.type "dict",none,.dict #[hk P "__name__" 165 (.str (hs "__main__") 164),hk P "__doc__" 166 (.none),hk P "__package__" 167 (.none),hk P "__loader__" 168 (.builtin "__main__.__loader__#opaque"),hk P "__spec__" 169 (.none),hk P "__annotations__" 170 (.ref 6),hk P "__builtins__" 171 (.ref 4),hk P "__file__" 173 (.str (hs "/claim/cut.py") 172),hk P "__cached__" 174 (.none),hk P "_sre" 275 (.ref 12)] 10, #[]⟩
noncomputable def ho11 : Obj := ⟨.type "dict",none,.dict #[hk P "__name__" 247 (.str (hs "_sre") 246),hk P "__doc__" 248 (.none),hk P "__package__" 250 (.str (hs "") 249),hk P "__loader__" 251 (.builtin "off-the-table:_sre.__loader__:shared#opaque"),hk P "__spec__" 252 (.builtin "off-the-table:_sre.__spec__:shared#opaque"),hk P "compile" 253 (.builtin "_sre.compile"),hk P "template" 254 (.builtin "off-the-table:_sre.template:shared#opaque"),hk P "getcodesize" 255 (.builtin "off-the-table:_sre.getcodesize:shared#opaque"),hk P "ascii_iscased" 256 (.builtin "off-the-table:_sre.ascii_iscased:shared#opaque"),hk P "unicode_iscased" 257 (.builtin "off-the-table:_sre.unicode_iscased:shared#opaque"),hk P "ascii_tolower" 258 (.builtin "off-the-table:_sre.ascii_tolower:shared#opaque"),hk P "unicode_tolower" 259 (.builtin "off-the-table:_sre.unicode_tolower:shared#opaque"),hk P "MAGIC" 261 (.int (20230612) 260),hk P "CODESIZE" 263 (.int (4) 262),hk P "MAXREPEAT" 265 (.int (4294967295) 264),hk P "MAXGROUPS" 267 (.int (1073741823) 266),hk P "copyright" 269 (.str (hs " SRE 2.2.2 Copyright (c) 1997-2002 by Secret Labs AB ") 268)] 17, #[]⟩
noncomputable def ho12 : Obj := ⟨.type "module",(some 11),.plain, #[]⟩
noncomputable def ho13 : Obj := ⟨.type "dict",none,.dict #[hk P "__module__" 189 (.str (hs "_frozen_importlib") 186),hk P "__firstlineno__" 190 (.int (971) 187),hk P "__doc__" 191 (.builtin "_frozen_importlib.BuiltinImporter.__doc__:str#opaque"),hk P "_ORIGIN" 192 (.str (hs "built-in") 188),hk P "find_spec" 193 (.builtin "_frozen_importlib.BuiltinImporter.find_spec#opaque"),hk P "create_module" 194 (.builtin "_frozen_importlib.BuiltinImporter.create_module#opaque"),hk P "exec_module" 195 (.builtin "_frozen_importlib.BuiltinImporter.exec_module#opaque"),hk P "get_code" 196 (.builtin "_frozen_importlib.BuiltinImporter.get_code#opaque"),hk P "get_source" 197 (.builtin "_frozen_importlib.BuiltinImporter.get_source#opaque"),hk P "is_package" 198 (.builtin "_frozen_importlib.BuiltinImporter.is_package#opaque"),hk P "load_module" 199 (.builtin "_frozen_importlib.BuiltinImporter.load_module#opaque"),hk P "__static_attributes__" 200 (.ref 15),hk P "__dict__" 202 (.ref 16),hk P "__weakref__" 204 (.ref 17)] 14, #[]⟩
noncomputable def ho14 : Obj := ⟨.type "type",none,.cls ⟨hs "BuiltinImporter",[.type "object"],[.ref 14,.type "object"],13,hs "BuiltinImporter",true,[],[],false,none,false⟩, #[]⟩
noncomputable def ho15 : Obj := tuO #[]
noncomputable def ho16 : Obj := ⟨.type "getset_descriptor",none,.fields #[.str (hs "__dict__") 201,.ref 14,.builtin "function.__dict__",.builtin "function.__dict__#set"], #[]⟩
noncomputable def ho17 : Obj := ⟨.type "getset_descriptor",none,.fields #[.str (hs "__weakref__") 203,.ref 14,.builtin "ExceptionGroup.__weakref__",.none], #[]⟩
noncomputable def ho18 : Obj := ⟨.none,none,.seq #[.int (13) 0,.str ((⟨#[6,189,10,95,95,109,111,100,117,108,101,95,95,6,186,17,95,102,114,111,122,101,110,95,105,109,112,111,114,116,108,105,98,6,190,15,95,95,102,105,114,115,116,108,105,110,101,110,111,95,95,4,187,0,971,6,191,7,95,95,100,111,99,95,95,9,52,95,102,114,111,122,101,110,95,105,109,112,111,114,116,108,105,98,46,66,117,105,108,116,105,110,73,109,112,111,114,116,101,114,46,95,95,100,111,99,95,95,58,115,116,114,35,111,112,97,113,117,101,6,192,7,95,79,82,73,71,73,78,6,188,8,98,117,105,108,116,45,105,110,6,193,9,102,105,110,100,95,115,112,101,99,9,50,95,102,114,111,122,101,110,95,105,109,112,111,114,116,108,105,98,46,66,117,105,108,116,105,110,73,109,112,111,114,116,101,114,46,102,105,110,100,95,115,112,101,99,35,111,112,97,113,117,101,6,194,13,99,114,101,97,116,101,95,109,111,100,117,108,101,9,54,95,102,114,111,122,101,110,95,105,109,112,111,114,116,108,105,98,46,66,117,105,108,116,105,110,73,109,112,111,114,116,101,114,46,99,114,101,97,116,101,95,109,111,100,117,108,101,35,111,112,97,113,117,101,6,195,11,101,120,101,99,95,109,111,100,117,108,101,9,52,95,102,114,111,122,101,110,95,105,109,112,111,114,116,108,105,98,46,66,117,105,108,116,105,110,73,109,112,111,114,116,101,114,46,101,120,101,99,95,109,111,100,117,108,101,35,111,112,97,113,117,101,6,196,8,103,101,116,95,99,111,100,101,9,49,95,102,114,111,122,101,110,95,105,109,112,111,114,116,108,105,98,46,66,117,105,108,116,105,110,73,109,112,111,114,116,101,114,46,103,101,116,95,99,111,100,101,35,111,112,97,113,117,101,6,197,10,103,101,116,95,115,111,117,114,99,101,9,51,95,102,114,111,122,101,110,95,105,109,112,111,114,116,108,105,98,46,66,117,105,108,116,105,110,73,109,112,111,114,116,101,114,46,103,101,116,95,115,111,117,114,99,101,35,111,112,97,113,117,101,6,198,10,105,115,95,112,97,99,107,97,103,101,9,51,95,102,114,111,122,101,110,95,105,109,112,111,114,116,108,105,98,46,66,117,105,108,116,105,110,73,109,112,111,114,116,101,114,46,105,115,95,112,97,99,107,97,103,101,35,111,112,97,113,117,101,6,199,11,108,111,97,100,95,109,111,100,117,108,101,9,52,95,102,114,111,122,101,110,95,105,109,112,111,114,116,108,105,98,46,66,117,105,108,116,105,110,73,109,112,111,114,116,101,114,46,108,111,97,100,95,109,111,100,117,108,101,35,111,112,97,113,117,101,6,200,21,95,95,115,116,97,116,105,99,95,97,116,116,114,105,98,117,116,101,115,95,95,4,0,0,15,6,202,8,95,95,100,105,99,116,95,95,4,0,0,16,6,204,11,95,95,119,101,97,107,114,101,102,95,95,4,0,0,17]⟩ : PySem.Str)) 0,.bool true,.bool true,.str (hs "") 205,.int (21) 0,.str ((⟨#[6,227,10,95,95,109,111,100,117,108,101,95,95,6,217,17,95,102,114,111,122,101,110,95,105,109,112,111,114,116,108,105,98,6,228,15,95,95,102,105,114,115,116,108,105,110,101,110,111,95,95,4,218,0,562,6,229,7,95,95,100,111,99,95,95,9,47,95,102,114,111,122,101,110,95,105,109,112,111,114,116,108,105,98,46,77,111,100,117,108,101,83,112,101,99,46,95,95,100,111,99,95,95,58,115,116,114,35,111,112,97,113,117,101,6,230,8,95,95,105,110,105,116,95,95,9,44,95,102,114,111,122,101,110,95,105,109,112,111,114,116,108,105,98,46,77,111,100,117,108,101,83,112,101,99,46,95,95,105,110,105,116,95,95,35,111,112,97,113,117,101,6,231,8,95,95,114,101,112,114,95,95,9,44,95,102,114,111,122,101,110,95,105,109,112,111,114,116,108,105,98,46,77,111,100,117,108,101,83,112,101,99,46,95,95,114,101,112,114,95,95,35,111,112,97,113,117,101,6,232,6,95,95,101,113,95,95,9,42,95,102,114,111,122,101,110,95,105,109,112,111,114,116,108,105,98,46,77,111,100,117,108,101,83,112,101,99,46,95,95,101,113,95,95,35,111,112,97,113,117,101,6,233,6,99,97,99,104,101,100,9,42,95,102,114,111,122,101,110,95,105,109,112,111,114,116,108,105,98,46,77,111,100,117,108,101,83,112,101,99,46,99,97,99,104,101,100,35,111,112,97,113,117,101,6,234,6,112,97,114,101,110,116,9,42,95,102,114,111,122,101,110,95,105,109,112,111,114,116,108,105,98,46,77,111,100,117,108,101,83,112,101,99,46,112,97,114,101,110,116,35,111,112,97,113,117,101,6,235,12,104,97,115,95,108,111,99,97,116,105,111,110,9,48,95,102,114,111,122,101,110,95,105,109,112,111,114,116,108,105,98,46,77,111,100,117,108,101,83,112,101,99,46,104,97,115,95,108,111,99,97,116,105,111,110,35,111,112,97,113,117,101,6,236,21,95,95,115,116,97,116,105,99,95,97,116,116,114,105,98,117,116,101,115,95,95,4,0,0,23,6,238,8,95,95,100,105,99,116,95,95,4,0,0,24,6,240,11,95,95,119,101,97,107,114,101,102,95,95,4,0,0,25,6,241,8,95,95,104,97,115,104,95,95,0]⟩ : PySem.Str)) 0,.bool true,.bool true,.str (hs "") 242] 1, #[]⟩
noncomputable def ho19 : Obj := ⟨.type "list",none,.seq #[] 0, #[]⟩
noncomputable def ho20 : Obj := ⟨.type "dict",none,.dict #[hk P "name" 208 (.str (hs "_sre") 207),hk P "loader" 209 (.ref 14),hk P "origin" 210 (.str (hs "built-in") 184),hk P "loader_state" 211 (.none),hk P "submodule_search_locations" 212 (.none),hk P "_uninitialized_submodules" 213 (.ref 19),hk P "_set_fileattr" 214 (.bool false),hk P "_cached" 215 (.none),hk P "_initializing" 243 (.bool false)] 9, #[]⟩
noncomputable def ho21 : Obj := ⟨.type "dict",none,.dict #[hk P "__module__" 227 (.str (hs "_frozen_importlib") 217),hk P "__firstlineno__" 228 (.int (562) 218),hk P "__doc__" 229 (.builtin "_frozen_importlib.ModuleSpec.__doc__:str#opaque"),hk P "__init__" 230 (.builtin "_frozen_importlib.ModuleSpec.__init__#opaque"),hk P "__repr__" 231 (.builtin "_frozen_importlib.ModuleSpec.__repr__#opaque"),hk P "__eq__" 232 (.builtin "_frozen_importlib.ModuleSpec.__eq__#opaque"),hk P "cached" 233 (.builtin "_frozen_importlib.ModuleSpec.cached#opaque"),hk P "parent" 234 (.builtin "_frozen_importlib.ModuleSpec.parent#opaque"),hk P "has_location" 235 (.builtin "_frozen_importlib.ModuleSpec.has_location#opaque"),hk P "__static_attributes__" 236 (.ref 23),hk P "__dict__" 238 (.ref 24),hk P "__weakref__" 240 (.ref 25),hk P "__hash__" 241 (.none)] 13, #[]⟩
noncomputable def ho22 : Obj := ⟨.type "type",none,.cls ⟨hs "ModuleSpec",[.type "object"],[.ref 22,.type "object"],21,hs "ModuleSpec",true,[],[],false,none,false⟩, #[]⟩
noncomputable def ho23 : Obj := tuO #[.str (hs "_cached") 219,.str (hs "_set_fileattr") 220,.str (hs "_uninitialized_submodules") 221,.str (hs "loader") 222,.str (hs "loader_state") 223,.str (hs "name") 224,.str (hs "origin") 225,.str (hs "submodule_search_locations") 226]
noncomputable def ho24 : Obj := ⟨.type "getset_descriptor",none,.fields #[.str (hs "__dict__") 237,.ref 22,.builtin "function.__dict__",.builtin "function.__dict__#set"], #[]⟩
noncomputable def ho25 : Obj := ⟨.type "getset_descriptor",none,.fields #[.str (hs "__weakref__") 239,.ref 22,.builtin "ExceptionGroup.__weakref__",.none], #[]⟩
noncomputable def ho26 : Obj := ⟨.ref 22,(some 20),.plain, #[]⟩
noncomputable def ho27 : Obj := ⟨.none,none,.seq #[.int (11) 0,.str ((⟨#[6,247,8,95,95,110,97,109,101,95,95,6,246,4,95,115,114,101,6,248,7,95,95,100,111,99,95,95,0,6,250,11,95,95,112,97,99,107,97,103,101,95,95,6,249,0,6,251,10,95,95,108,111,97,100,101,114,95,95,4,0,0,14,6,252,8,95,95,115,112,101,99,95,95,4,0,0,26,6,253,7,99,111,109,112,105,108,101,9,12,95,115,114,101,46,99,111,109,112,105,108,101,6,254,8,116,101,109,112,108,97,116,101,9,13,95,115,114,101,46,116,101,109,112,108,97,116,101,6,255,11,103,101,116,99,111,100,101,115,105,122,101,9,16,95,115,114,101,46,103,101,116,99,111,100,101,115,105,122,101,6,256,13,97,115,99,105,105,95,105,115,99,97,115,101,100,9,18,95,115,114,101,46,97,115,99,105,105,95,105,115,99,97,115,101,100,6,257,15,117,110,105,99,111,100,101,95,105,115,99,97,115,101,100,9,20,95,115,114,101,46,117,110,105,99,111,100,101,95,105,115,99,97,115,101,100,6,258,13,97,115,99,105,105,95,116,111,108,111,119,101,114,9,18,95,115,114,101,46,97,115,99,105,105,95,116,111,108,111,119,101,114,6,259,15,117,110,105,99,111,100,101,95,116,111,108,111,119,101,114,9,20,95,115,114,101,46,117,110,105,99,111,100,101,95,116,111,108,111,119,101,114,6,261,5,77,65,71,73,67,4,260,0,20230612,6,263,8,67,79,68,69,83,73,90,69,4,262,0,4,6,265,9,77,65,88,82,69,80,69,65,84,4,264,0,4294967295,6,267,9,77,65,88,71,82,79,85,80,83,4,266,0,1073741823,6,269,9,99,111,112,121,114,105,103,104,116,6,268,53,32,83,82,69,32,50,46,50,46,50,32,67,111,112,121,114,105,103,104,116,32,40,99,41,32,49,57,57,55,45,50,48,48,50,32,98,121,32,83,101,99,114,101,116,32,76,97,98,115,32,65,66,32]⟩ : PySem.Str)) 0,.bool true,.bool false,.str (hs "_sre") 271] 0, #[]⟩
noncomputable def hp0 : Heap := ⟨Array.mk [boot_o_0 P,ho1 P,ho2 P,ho3 P,boot_o_4 P,boot_o_5 P,boot_o_6 P,boot_o_7 P,boot_o_8 P,boot_o_9 P,boot_o_10 P,ho11 P,ho12,ho13 P,ho14,ho15,ho16,ho17,ho18,ho19,ho20 P,ho21 P,ho22,ho23,ho24,ho25,ho26,ho27],{ }⟩
noncomputable def ho28 : Obj := tuO #[]
noncomputable def ho29 : Obj := ⟨.none,none,.fields #[], #[]⟩
noncomputable def ho30 : Obj := ⟨.type "code",none,.fields #[.str (hs "<module>") 277,.str (hs "<module>") 278,.str (hs "/claim/cut.py") 279,.int (1) 0,.int (0) 0,.int (0) 0,.int (0) 0,.int (0) 0,.ref 28,.bool false,.int (276) 0,.ref 29,.none,.none,.none,.none,.int (280) 0,.int (1) 0,.str (hs "/claim/cut.py") 281], #[]⟩
noncomputable def ho31 : Obj := ⟨.type "frame",none,.plain, #[some (.ref 30),some (.ref 3),some (.ref 3),none,some (.str (hs "__main__") 164),none,some (.ref 0)]⟩
noncomputable def hp_pre : Heap := ⟨Array.mk [boot_o_0 P,ho1 P,ho2 P,ho3 P,boot_o_4 P,boot_o_5 P,boot_o_6 P,boot_o_7 P,boot_o_8 P,boot_o_9 P,boot_o_10 P,ho11 P,ho12,ho13 P,ho14,ho15,ho16,ho17,ho18,ho19,ho20 P,ho21 P,ho22,ho23,ho24,ho25,ho26,ho27,ho28,ho29,ho30,ho31],{ }⟩
noncomputable def ho3x : Obj := ⟨.type "dict",none,.dict #[hk P "__name__" 165 (.str (hs "os") 289),hk P "__doc__" 166 (.none),hk P "__package__" 167 (.none),hk P "__loader__" 168 (.builtin "__main__.__loader__#opaque"),hk P "__spec__" 169 (.none),hk P "__annotations__" 170 (.ref 6),hk P "__builtins__" 171 (.ref 4),hk P "__file__" 173 (.str (hs "/claim/cut.py") 172),hk P "__cached__" 174 (.none),hk P "_sre" 275 (.ref 12),hk P "_wall" 288 (.ref 38),hk P "_plain_name" 299 (.ref 45)] 12, #[]⟩
noncomputable def ho29x : Obj := ⟨.none,none,.fields #[.int (2) 0,.int (0) 0,.ref 37,.int (6) 0,.int (0) 0,.ref 44], #[]⟩
noncomputable def ho32 : Obj := tuO #[]
noncomputable def ho33 : Obj := ⟨.none,none,.fields #[], #[]⟩
noncomputable def ho34 : Obj := tuO #[.str (hs "k") 285]
noncomputable def ho35 : Obj := tuO #[]
noncomputable def ho36 : Obj := ⟨.none,none,.func ⟨hs "_wall",hs "_wall",hPs (hAt hW [1]),.stmts (hBd (hAt hW [1])),hSc (hAt hW [1]),0,[],.none,.none,.none,.none,none,.none,.none,0⟩, #[]⟩
noncomputable def ho37 : Obj := ⟨.type "code",none,.fields #[.str (hs "_wall") 282,.str (hs "_wall") 283,.str (hs "/claim/cut.py") 284,.int (2) 0,.int (1) 0,.int (0) 0,.int (0) 0,.int (3) 0,.ref 32,.bool true,.int (276) 0,.ref 33,.none,.ref 34,.ref 35,.ref 36,.int (286) 0,.int (2) 0,.str (hs "/claim/cut.py") 287], #[]⟩
noncomputable def ho38 : Obj := ⟨.type "function",none,.func ⟨hs "_wall",hs "_wall",hPs (hAt hW [1]),.stmts (hBd (hAt hW [1])),hSc (hAt hW [1]),3,[],.none,.none,.none,.str (hs "__main__") 164,none,.ref 37,.none,0⟩, #[]⟩
noncomputable def ho39 : Obj := tuO #[]
noncomputable def ho40 : Obj := ⟨.none,none,.fields #[], #[]⟩
noncomputable def ho41 : Obj := tuO #[.str (hs "x") 294,.str (hs "what") 295,.str (hs "kind") 296]
noncomputable def ho42 : Obj := tuO #[]
noncomputable def ho43 : Obj := ⟨.none,none,.func ⟨hs "_plain_name",hs "_plain_name",hPs (hAt hW [3]),.stmts (hBd (hAt hW [3])),hSc (hAt hW [3]),0,[],.none,.none,.none,.none,none,.none,.none,0⟩, #[]⟩
noncomputable def ho44 : Obj := ⟨.type "code",none,.fields #[.str (hs "_plain_name") 291,.str (hs "_plain_name") 292,.str (hs "/claim/cut.py") 293,.int (6) 0,.int (2) 0,.int (0) 0,.int (0) 0,.int (3) 0,.ref 39,.bool true,.int (276) 0,.ref 40,.none,.ref 41,.ref 42,.ref 43,.int (297) 0,.int (6) 0,.str (hs "/claim/cut.py") 298], #[]⟩
noncomputable def ho45 : Obj := ⟨.type "function",none,.func ⟨hs "_plain_name",hs "_plain_name",hPs (hAt hW [3]),.stmts (hBd (hAt hW [3])),hSc (hAt hW [3]),3,[],.none,.none,.none,.str (hs "os") 289,none,.ref 44,.none,0⟩, #[]⟩
noncomputable def hp3 : Heap := ⟨Array.mk [boot_o_0 P,ho1 P,ho2 P,ho3x P,boot_o_4 P,boot_o_5 P,boot_o_6 P,boot_o_7 P,boot_o_8 P,boot_o_9 P,boot_o_10 P,ho11 P,ho12,ho13 P,ho14,ho15,ho16,ho17,ho18,ho19,ho20 P,ho21 P,ho22,ho23,ho24,ho25,ho26,ho27,ho28,ho29x,ho30,ho31,ho32,ho33,ho34,ho35,ho36,ho37,ho38,ho39,ho40,ho41,ho42,ho43,ho44,ho45],{ }⟩
noncomputable def ho3xx : Obj := ⟨.type "dict",none,.dict #[hk P "__name__" 165 (.str (hs "abc") 300),hk P "__doc__" 166 (.none),hk P "__package__" 167 (.none),hk P "__loader__" 168 (.builtin "__main__.__loader__#opaque"),hk P "__spec__" 169 (.none),hk P "__annotations__" 170 (.ref 6),hk P "__builtins__" 171 (.ref 4),hk P "__file__" 173 (.str (hs "/claim/cut.py") 172),hk P "__cached__" 174 (.none),hk P "_sre" 275 (.ref 12),hk P "_wall" 288 (.ref 38),hk P "_plain_name" 299 (.ref 45)] 12, #[]⟩
noncomputable def hp4 : Heap := ⟨Array.mk [boot_o_0 P,ho1 P,ho2 P,ho3xx P,boot_o_4 P,boot_o_5 P,boot_o_6 P,boot_o_7 P,boot_o_8 P,boot_o_9 P,boot_o_10 P,ho11 P,ho12,ho13 P,ho14,ho15,ho16,ho17,ho18,ho19,ho20 P,ho21 P,ho22,ho23,ho24,ho25,ho26,ho27,ho28,ho29x,ho30,ho31,ho32,ho33,ho34,ho35,ho36,ho37,ho38,ho39,ho40,ho41,ho42,ho43,ho44,ho45],{ }⟩
noncomputable def ho3xxx : Obj := ⟨.type "dict",none,.dict #[hk P "__name__" 165 (.str (hs "law_dn0069_05") 685),hk P "__doc__" 166 (.none),hk P "__package__" 167 (.none),hk P "__loader__" 168 (.builtin "__main__.__loader__#opaque"),hk P "__spec__" 169 (.none),hk P "__annotations__" 170 (.ref 6),hk P "__builtins__" 171 (.ref 4),hk P "__file__" 173 (.str (hs "/claim/cut.py") 172),hk P "__cached__" 174 (.none),hk P "_sre" 275 (.ref 12),hk P "_wall" 288 (.ref 38),hk P "_plain_name" 299 (.ref 45),hk P "ABCMeta" 325 (.ref 62),hk P "_ABCLike" 368 (.ref 95),hk P "_abc_plain_meta" 375 (.ref 104),hk P "fspath" 387 (.ref 111),hk P "_check_arg_types" 400 (.ref 118),hk P "_get_sep" 409 (.ref 125),hk P "join" 420 (.ref 132),hk P "split" 431 (.ref 139),hk P "splitroot" 440 (.ref 146),hk P "basename" 449 (.ref 153),hk P "normpath" 464 (.ref 160),hk P "commonpath" 470 (.ref 165),hk P "_twin_re_1" 508 (.ref 170),hk P "_special_chars_map" 656 (.ref 172),hk P "escape" 663 (.ref 182),hk P "_translate" 684 (.ref 189),hk P "_law_one" 700 (.ref 196),hk P "_law_takes" 706 (.ref 201),hk P "_law_means" 712 (.ref 206),hk P "_law_dressed" 720 (.ref 213),hk P "_law_tree" 732 (.ref 220),hk P "_law_behind" 746 (.ref 227),hk P "_law_front" 752 (.ref 232),hk P "law" 758 (.ref 237)] 36, #[]⟩
noncomputable def ho29xx : Obj := ⟨.none,none,.fields #[.int (2) 0,.int (0) 0,.ref 37,.int (6) 0,.int (0) 0,.ref 44,.int (12) 0,.int (0) 0,.ref 51,.int (17) 0,.int (0) 0,.ref 70,.int (32) 0,.int (0) 0,.ref 103,.int (36) 0,.int (0) 0,.ref 110,.int (53) 0,.int (0) 0,.ref 117,.int (65) 0,.int (0) 0,.ref 124,.int (70) 0,.int (0) 0,.ref 131,.int (87) 0,.int (0) 0,.ref 138,.int (95) 0,.int (0) 0,.ref 145,.int (109) 0,.int (0) 0,.ref 152,.int (114) 0,.int (0) 0,.ref 159,.int (139) 0,.int (0) 0,.ref 164,.int (171) 0,.int (0) 0,.ref 181,.int (178) 0,.int (0) 0,.ref 188,.int (241) 0,.int (0) 0,.ref 195,.int (265) 0,.int (0) 0,.ref 200,.int (273) 0,.int (0) 0,.ref 205,.int (279) 0,.int (0) 0,.ref 212,.int (282) 0,.int (0) 0,.ref 219,.int (293) 0,.int (0) 0,.ref 226,.int (307) 0,.int (0) 0,.ref 231,.int (318) 0,.int (0) 0,.ref 236], #[]⟩
noncomputable def ho46 : Obj := tuO #[.type "type"]
noncomputable def ho47 : Obj := ⟨.type "builtin_function_or_method",none,.fields #[.builtin "type.__prepare__",.type "type"], #[]⟩
noncomputable def ho48 : Obj := ⟨.type "dict",none,.dict #[hk P "__module__" 309 (.str (hs "abc") 300),hk P "__qualname__" 311 (.str (hs "ABCMeta") 310),hk P "__firstlineno__" 313 (.int (12) 312),hk P "register" 321 (.ref 59),hk P "__static_attributes__" 322 (.ref 60)] 5, #[]⟩
noncomputable def ho49 : Obj := tuO #[]
noncomputable def ho50 : Obj := ⟨.none,none,.fields #[.int (14) 0,.int (4) 0,.ref 58], #[]⟩
noncomputable def ho51 : Obj := ⟨.type "code",none,.fields #[.str (hs "ABCMeta") 304,.str (hs "ABCMeta") 305,.str (hs "/claim/cut.py") 306,.int (12) 0,.int (0) 0,.int (0) 0,.int (0) 0,.int (0) 0,.ref 49,.bool false,.int (276) 0,.ref 50,.none,.none,.none,.none,.int (307) 0,.int (12) 0,.str (hs "/claim/cut.py") 308], #[]⟩
noncomputable def ho52 : Obj := ⟨.type "frame",none,.plain, #[some (.ref 51),some (.ref 3),some (.ref 48),none,some (.str (hs "abc") 300),none,some (.ref 0)]⟩
noncomputable def ho53 : Obj := tuO #[]
noncomputable def ho54 : Obj := ⟨.none,none,.fields #[], #[]⟩
noncomputable def ho55 : Obj := tuO #[.str (hs "cls") 317,.str (hs "subclass") 318]
noncomputable def ho56 : Obj := tuO #[]
noncomputable def ho57 : Obj := ⟨.none,none,.func ⟨hs "register",hs "ABCMeta.register",hPs (hAt hW [5,0]),.stmts (hBd (hAt hW [5,0])),hSc (hAt hW [5,0]),0,[],.none,.none,.none,.none,none,.none,.none,0⟩, #[]⟩
noncomputable def ho58 : Obj := ⟨.type "code",none,.fields #[.str (hs "register") 314,.str (hs "ABCMeta.register") 315,.str (hs "/claim/cut.py") 316,.int (14) 0,.int (2) 0,.int (0) 0,.int (0) 0,.int (3) 0,.ref 53,.bool true,.int (276) 0,.ref 54,.none,.ref 55,.ref 56,.ref 57,.int (319) 0,.int (14) 0,.str (hs "/claim/cut.py") 320], #[]⟩
noncomputable def ho59 : Obj := ⟨.type "function",none,.func ⟨hs "register",hs "ABCMeta.register",hPs (hAt hW [5,0]),.stmts (hBd (hAt hW [5,0])),hSc (hAt hW [5,0]),3,[],.none,.none,.none,.str (hs "abc") 300,none,.ref 58,.none,0⟩, #[]⟩
noncomputable def ho60 : Obj := tuO #[]
noncomputable def ho61 : Obj := ⟨.type "dict",none,.dict #[hk P "__module__" 309 (.str (hs "abc") 300),hk P "__firstlineno__" 313 (.int (12) 312),hk P "register" 321 (.ref 59),hk P "__static_attributes__" 322 (.ref 60),hk P "__doc__" 323 (.none)] 2, #[]⟩
noncomputable def ho62 : Obj := ⟨.type "type",none,.cls ⟨hs "ABCMeta",[.type "type"],[.ref 62,.type "type",.type "object"],61,hs "ABCMeta",true,[],[.ref 95],false,none,false⟩, #[some (.ref 46),none,some (.str (hs "ABCMeta") 302),some (.str (hs "ABCMeta") 310),some (.builtin "type.__new__"),some (.bool true)]⟩
noncomputable def ho63 : Obj := ⟨.type "super",none,.fields #[.ref 62,.ref 62,.ref 62], #[]⟩
noncomputable def ho64 : Obj := ⟨.type "builtin_function_or_method",none,.fields #[.builtin "object.__init_subclass__",.ref 62], #[]⟩
noncomputable def ho65 : Obj := tuO #[.ref 62]
noncomputable def ho66 : Obj := ⟨.type "builtin_function_or_method",none,.fields #[.builtin "type.__prepare__",.type "type"], #[]⟩
noncomputable def ho67 : Obj := ⟨.type "dict",none,.dict #[hk P "__module__" 335 (.str (hs "collections.abc") 326),hk P "__qualname__" 337 (.str (hs "_ABCLike") 336),hk P "__firstlineno__" 339 (.int (17) 338),hk P "__instancecheck__" 348 (.ref 78),hk P "__subclasscheck__" 356 (.ref 85),hk P "register" 364 (.ref 92),hk P "__static_attributes__" 365 (.ref 93)] 7, #[]⟩
noncomputable def ho68 : Obj := tuO #[]
noncomputable def ho69 : Obj := ⟨.none,none,.fields #[.int (19) 0,.int (4) 0,.ref 77,.int (25) 0,.int (4) 0,.ref 84,.int (30) 0,.int (4) 0,.ref 91], #[]⟩
noncomputable def ho70 : Obj := ⟨.type "code",none,.fields #[.str (hs "_ABCLike") 330,.str (hs "_ABCLike") 331,.str (hs "/claim/cut.py") 332,.int (17) 0,.int (0) 0,.int (0) 0,.int (0) 0,.int (0) 0,.ref 68,.bool false,.int (276) 0,.ref 69,.none,.none,.none,.none,.int (333) 0,.int (17) 0,.str (hs "/claim/cut.py") 334], #[]⟩
noncomputable def ho71 : Obj := ⟨.type "frame",none,.plain, #[some (.ref 70),some (.ref 3),some (.ref 67),none,some (.str (hs "collections.abc") 326),none,some (.ref 0)]⟩
noncomputable def ho72 : Obj := tuO #[]
noncomputable def ho73 : Obj := ⟨.none,none,.fields #[], #[]⟩
noncomputable def ho74 : Obj := tuO #[.str (hs "cls") 343,.str (⟨#[105,110,115,116,97,110,99,101]⟩) 344,.str (hs "C") 345]
noncomputable def ho75 : Obj := tuO #[]
noncomputable def ho76 : Obj := ⟨.none,none,.func ⟨hs "__instancecheck__",hs "_ABCLike.__instancecheck__",hPs (hAt hW [7,0]),.stmts (hBd (hAt hW [7,0])),hSc (hAt hW [7,0]),0,[],.none,.none,.none,.none,none,.none,.none,0⟩, #[]⟩
noncomputable def ho77 : Obj := ⟨.type "code",none,.fields #[.str (hs "__instancecheck__") 340,.str (hs "_ABCLike.__instancecheck__") 341,.str (hs "/claim/cut.py") 342,.int (19) 0,.int (2) 0,.int (0) 0,.int (0) 0,.int (3) 0,.ref 72,.bool true,.int (276) 0,.ref 73,.none,.ref 74,.ref 75,.ref 76,.int (346) 0,.int (19) 0,.str (hs "/claim/cut.py") 347], #[]⟩
noncomputable def ho78 : Obj := ⟨.type "function",none,.func ⟨hs "__instancecheck__",hs "_ABCLike.__instancecheck__",hPs (hAt hW [7,0]),.stmts (hBd (hAt hW [7,0])),hSc (hAt hW [7,0]),3,[],.none,.none,.none,.str (hs "collections.abc") 326,none,.ref 77,.none,0⟩, #[]⟩
noncomputable def ho79 : Obj := tuO #[]
noncomputable def ho80 : Obj := ⟨.none,none,.fields #[], #[]⟩
noncomputable def ho81 : Obj := tuO #[.str (hs "cls") 352,.str (hs "C") 353]
noncomputable def ho82 : Obj := tuO #[]
noncomputable def ho83 : Obj := ⟨.none,none,.func ⟨hs "__subclasscheck__",hs "_ABCLike.__subclasscheck__",hPs (hAt hW [7,1]),.stmts (hBd (hAt hW [7,1])),hSc (hAt hW [7,1]),0,[],.none,.none,.none,.none,none,.none,.none,0⟩, #[]⟩
noncomputable def ho84 : Obj := ⟨.type "code",none,.fields #[.str (hs "__subclasscheck__") 349,.str (hs "_ABCLike.__subclasscheck__") 350,.str (hs "/claim/cut.py") 351,.int (25) 0,.int (2) 0,.int (0) 0,.int (0) 0,.int (3) 0,.ref 79,.bool true,.int (276) 0,.ref 80,.none,.ref 81,.ref 82,.ref 83,.int (354) 0,.int (25) 0,.str (hs "/claim/cut.py") 355], #[]⟩
noncomputable def ho85 : Obj := ⟨.type "function",none,.func ⟨hs "__subclasscheck__",hs "_ABCLike.__subclasscheck__",hPs (hAt hW [7,1]),.stmts (hBd (hAt hW [7,1])),hSc (hAt hW [7,1]),3,[],.none,.none,.none,.str (hs "collections.abc") 326,none,.ref 84,.none,0⟩, #[]⟩
noncomputable def ho86 : Obj := tuO #[]
noncomputable def ho87 : Obj := ⟨.none,none,.fields #[], #[]⟩
noncomputable def ho88 : Obj := tuO #[.str (hs "cls") 360,.str (hs "subclass") 361]
noncomputable def ho89 : Obj := tuO #[]
noncomputable def ho90 : Obj := ⟨.none,none,.func ⟨hs "register",hs "_ABCLike.register",hPs (hAt hW [7,2]),.stmts (hBd (hAt hW [7,2])),hSc (hAt hW [7,2]),0,[],.none,.none,.none,.none,none,.none,.none,0⟩, #[]⟩
noncomputable def ho91 : Obj := ⟨.type "code",none,.fields #[.str (hs "register") 357,.str (hs "_ABCLike.register") 358,.str (hs "/claim/cut.py") 359,.int (30) 0,.int (2) 0,.int (0) 0,.int (0) 0,.int (3) 0,.ref 86,.bool true,.int (276) 0,.ref 87,.none,.ref 88,.ref 89,.ref 90,.int (362) 0,.int (30) 0,.str (hs "/claim/cut.py") 363], #[]⟩
noncomputable def ho92 : Obj := ⟨.type "function",none,.func ⟨hs "register",hs "_ABCLike.register",hPs (hAt hW [7,2]),.stmts (hBd (hAt hW [7,2])),hSc (hAt hW [7,2]),3,[],.none,.none,.none,.str (hs "collections.abc") 326,none,.ref 91,.none,0⟩, #[]⟩
noncomputable def ho93 : Obj := tuO #[]
noncomputable def ho94 : Obj := ⟨.type "dict",none,.dict #[hk P "__module__" 335 (.str (hs "collections.abc") 326),hk P "__firstlineno__" 339 (.int (17) 338),hk P "__instancecheck__" 348 (.ref 78),hk P "__subclasscheck__" 356 (.ref 85),hk P "register" 364 (.ref 92),hk P "__static_attributes__" 365 (.ref 93),hk P "__doc__" 366 (.none)] 2, #[]⟩
noncomputable def ho95 : Obj := ⟨.type "type",none,.cls ⟨hs "_ABCLike",[.ref 62],[.ref 95,.ref 62,.type "type",.type "object"],94,hs "_ABCLike",true,[],[],false,none,false⟩, #[some (.ref 65),none,some (.str (hs "_ABCLike") 328),some (.str (hs "_ABCLike") 336),some (.builtin "type.__new__"),some (.bool true)]⟩
noncomputable def ho96 : Obj := ⟨.type "super",none,.fields #[.ref 95,.ref 95,.ref 95], #[]⟩
noncomputable def ho97 : Obj := ⟨.type "builtin_function_or_method",none,.fields #[.builtin "object.__init_subclass__",.ref 95], #[]⟩
noncomputable def ho98 : Obj := tuO #[]
noncomputable def ho99 : Obj := ⟨.none,none,.fields #[], #[]⟩
noncomputable def ho100 : Obj := tuO #[.str (hs "C") 372]
noncomputable def ho101 : Obj := tuO #[]
noncomputable def ho102 : Obj := ⟨.none,none,.func ⟨hs "_abc_plain_meta",hs "_abc_plain_meta",hPs (hAt hW [8]),.stmts (hBd (hAt hW [8])),hSc (hAt hW [8]),0,[],.none,.none,.none,.none,none,.none,.none,0⟩, #[]⟩
noncomputable def ho103 : Obj := ⟨.type "code",none,.fields #[.str (hs "_abc_plain_meta") 369,.str (hs "_abc_plain_meta") 370,.str (hs "/claim/cut.py") 371,.int (32) 0,.int (1) 0,.int (0) 0,.int (0) 0,.int (3) 0,.ref 98,.bool true,.int (276) 0,.ref 99,.none,.ref 100,.ref 101,.ref 102,.int (373) 0,.int (32) 0,.str (hs "/claim/cut.py") 374], #[]⟩
noncomputable def ho104 : Obj := ⟨.type "function",none,.func ⟨hs "_abc_plain_meta",hs "_abc_plain_meta",hPs (hAt hW [8]),.stmts (hBd (hAt hW [8])),hSc (hAt hW [8]),3,[],.none,.none,.none,.str (hs "collections.abc") 326,none,.ref 103,.none,0⟩, #[]⟩
noncomputable def ho105 : Obj := tuO #[]
noncomputable def ho106 : Obj := ⟨.none,none,.fields #[], #[]⟩
noncomputable def ho107 : Obj := tuO #[.str (hs "path") 381,.str (hs "kind") 382,.str (hs "hook") 383,.str (hs "given") 384]
noncomputable def ho108 : Obj := tuO #[]
noncomputable def ho109 : Obj := ⟨.none,none,.func ⟨hs "fspath",hs "fspath",hPs (hAt hW [10]),.stmts (hBd (hAt hW [10])),hSc (hAt hW [10]),0,[],.none,.none,.none,.none,none,.none,.none,0⟩, #[]⟩
noncomputable def ho110 : Obj := ⟨.type "code",none,.fields #[.str (hs "fspath") 378,.str (hs "fspath") 379,.str (hs "/claim/cut.py") 380,.int (36) 0,.int (1) 0,.int (0) 0,.int (0) 0,.int (3) 0,.ref 105,.bool true,.int (276) 0,.ref 106,.none,.ref 107,.ref 108,.ref 109,.int (385) 0,.int (36) 0,.str (hs "/claim/cut.py") 386], #[]⟩
noncomputable def ho111 : Obj := ⟨.type "function",none,.func ⟨hs "fspath",hs "fspath",hPs (hAt hW [10]),.stmts (hBd (hAt hW [10])),hSc (hAt hW [10]),3,[],.none,.none,.none,.str (hs "os") 376,none,.ref 110,.none,0⟩, #[]⟩
noncomputable def ho112 : Obj := tuO #[]
noncomputable def ho113 : Obj := ⟨.none,none,.fields #[], #[]⟩
noncomputable def ho114 : Obj := tuO #[.str (hs "funcname") 393,.str (hs "args") 394,.str (hs "hasstr") 395,.str (hs "hasbytes") 396,.str (hs "s") 397]
noncomputable def ho115 : Obj := tuO #[]
noncomputable def ho116 : Obj := ⟨.none,none,.func ⟨hs "_check_arg_types",hs "_check_arg_types",hPs (hAt hW [12]),.stmts (hBd (hAt hW [12])),hSc (hAt hW [12]),0,[],.none,.none,.none,.none,none,.none,.none,0⟩, #[]⟩
noncomputable def ho117 : Obj := ⟨.type "code",none,.fields #[.str (hs "_check_arg_types") 390,.str (hs "_check_arg_types") 391,.str (hs "/claim/cut.py") 392,.int (53) 0,.int (1) 0,.int (0) 0,.int (0) 0,.int (7) 0,.ref 112,.bool true,.int (276) 0,.ref 113,.none,.ref 114,.ref 115,.ref 116,.int (398) 0,.int (53) 0,.str (hs "/claim/cut.py") 399], #[]⟩
noncomputable def ho118 : Obj := ⟨.type "function",none,.func ⟨hs "_check_arg_types",hs "_check_arg_types",hPs (hAt hW [12]),.stmts (hBd (hAt hW [12])),hSc (hAt hW [12]),3,[],.none,.none,.none,.str (hs "cpy313.genericpath") 388,none,.ref 117,.none,0⟩, #[]⟩
noncomputable def ho119 : Obj := tuO #[]
noncomputable def ho120 : Obj := ⟨.none,none,.fields #[], #[]⟩
noncomputable def ho121 : Obj := tuO #[.str (hs "path") 406]
noncomputable def ho122 : Obj := tuO #[]
noncomputable def ho123 : Obj := ⟨.none,none,.func ⟨hs "_get_sep",hs "_get_sep",hPs (hAt hW [14]),.stmts (hBd (hAt hW [14])),hSc (hAt hW [14]),0,[],.none,.none,.none,.none,none,.none,.none,0⟩, #[]⟩
noncomputable def ho124 : Obj := ⟨.type "code",none,.fields #[.str (hs "_get_sep") 403,.str (hs "_get_sep") 404,.str (hs "/claim/cut.py") 405,.int (65) 0,.int (1) 0,.int (0) 0,.int (0) 0,.int (3) 0,.ref 119,.bool true,.int (276) 0,.ref 120,.none,.ref 121,.ref 122,.ref 123,.int (407) 0,.int (65) 0,.str (hs "/claim/cut.py") 408], #[]⟩
noncomputable def ho125 : Obj := ⟨.type "function",none,.func ⟨hs "_get_sep",hs "_get_sep",hPs (hAt hW [14]),.stmts (hBd (hAt hW [14])),hSc (hAt hW [14]),3,[],.none,.none,.none,.str (hs "cpy313.posixpath") 401,none,.ref 124,.none,0⟩, #[]⟩
noncomputable def ho126 : Obj := tuO #[]
noncomputable def ho127 : Obj := ⟨.none,none,.fields #[], #[]⟩
noncomputable def ho128 : Obj := tuO #[.str (hs "a") 413,.str (hs "p") 414,.str (hs "sep") 415,.str (hs "path") 416,.str (hs "b") 417]
noncomputable def ho129 : Obj := tuO #[]
noncomputable def ho130 : Obj := ⟨.none,none,.func ⟨hs "join",hs "join",hPs (hAt hW [15]),.stmts (hBd (hAt hW [15])),hSc (hAt hW [15]),0,[],.none,.none,.none,.none,none,.none,.none,0⟩, #[]⟩
noncomputable def ho131 : Obj := ⟨.type "code",none,.fields #[.str (hs "join") 410,.str (hs "join") 411,.str (hs "/claim/cut.py") 412,.int (70) 0,.int (1) 0,.int (0) 0,.int (0) 0,.int (7) 0,.ref 126,.bool true,.int (276) 0,.ref 127,.none,.ref 128,.ref 129,.ref 130,.int (418) 0,.int (70) 0,.str (hs "/claim/cut.py") 419], #[]⟩
noncomputable def ho132 : Obj := ⟨.type "function",none,.func ⟨hs "join",hs "join",hPs (hAt hW [15]),.stmts (hBd (hAt hW [15])),hSc (hAt hW [15]),3,[],.none,.none,.none,.str (hs "cpy313.posixpath") 401,none,.ref 131,.none,0⟩, #[]⟩
noncomputable def ho133 : Obj := tuO #[]
noncomputable def ho134 : Obj := ⟨.none,none,.fields #[], #[]⟩
noncomputable def ho135 : Obj := tuO #[.str (hs "p") 424,.str (hs "sep") 425,.str (hs "i") 426,.str (hs "head") 427,.str (hs "tail") 428]
noncomputable def ho136 : Obj := tuO #[]
noncomputable def ho137 : Obj := ⟨.none,none,.func ⟨hs "split",hs "split",hPs (hAt hW [16]),.stmts (hBd (hAt hW [16])),hSc (hAt hW [16]),0,[],.none,.none,.none,.none,none,.none,.none,0⟩, #[]⟩
noncomputable def ho138 : Obj := ⟨.type "code",none,.fields #[.str (hs "split") 421,.str (hs "split") 422,.str (hs "/claim/cut.py") 423,.int (87) 0,.int (1) 0,.int (0) 0,.int (0) 0,.int (3) 0,.ref 133,.bool true,.int (276) 0,.ref 134,.none,.ref 135,.ref 136,.ref 137,.int (429) 0,.int (87) 0,.str (hs "/claim/cut.py") 430], #[]⟩
noncomputable def ho139 : Obj := ⟨.type "function",none,.func ⟨hs "split",hs "split",hPs (hAt hW [16]),.stmts (hBd (hAt hW [16])),hSc (hAt hW [16]),3,[],.none,.none,.none,.str (hs "cpy313.posixpath") 401,none,.ref 138,.none,0⟩, #[]⟩
noncomputable def ho140 : Obj := tuO #[]
noncomputable def ho141 : Obj := ⟨.none,none,.fields #[], #[]⟩
noncomputable def ho142 : Obj := tuO #[.str (hs "p") 435,.str (hs "sep") 436,.str (hs "empty") 437]
noncomputable def ho143 : Obj := tuO #[]
noncomputable def ho144 : Obj := ⟨.none,none,.func ⟨hs "splitroot",hs "splitroot",hPs (hAt hW [17]),.stmts (hBd (hAt hW [17])),hSc (hAt hW [17]),0,[],.none,.none,.none,.none,none,.none,.none,0⟩, #[]⟩
noncomputable def ho145 : Obj := ⟨.type "code",none,.fields #[.str (hs "splitroot") 432,.str (hs "splitroot") 433,.str (hs "/claim/cut.py") 434,.int (95) 0,.int (1) 0,.int (0) 0,.int (0) 0,.int (3) 0,.ref 140,.bool true,.int (276) 0,.ref 141,.none,.ref 142,.ref 143,.ref 144,.int (438) 0,.int (95) 0,.str (hs "/claim/cut.py") 439], #[]⟩
noncomputable def ho146 : Obj := ⟨.type "function",none,.func ⟨hs "splitroot",hs "splitroot",hPs (hAt hW [17]),.stmts (hBd (hAt hW [17])),hSc (hAt hW [17]),3,[],.none,.none,.none,.str (hs "cpy313.posixpath") 401,none,.ref 145,.none,0⟩, #[]⟩
noncomputable def ho147 : Obj := tuO #[]
noncomputable def ho148 : Obj := ⟨.none,none,.fields #[], #[]⟩
noncomputable def ho149 : Obj := tuO #[.str (hs "p") 444,.str (hs "sep") 445,.str (hs "i") 446]
noncomputable def ho150 : Obj := tuO #[]
noncomputable def ho151 : Obj := ⟨.none,none,.func ⟨hs "basename",hs "basename",hPs (hAt hW [18]),.stmts (hBd (hAt hW [18])),hSc (hAt hW [18]),0,[],.none,.none,.none,.none,none,.none,.none,0⟩, #[]⟩
noncomputable def ho152 : Obj := ⟨.type "code",none,.fields #[.str (hs "basename") 441,.str (hs "basename") 442,.str (hs "/claim/cut.py") 443,.int (109) 0,.int (1) 0,.int (0) 0,.int (0) 0,.int (3) 0,.ref 147,.bool true,.int (276) 0,.ref 148,.none,.ref 149,.ref 150,.ref 151,.int (447) 0,.int (109) 0,.str (hs "/claim/cut.py") 448], #[]⟩
noncomputable def ho153 : Obj := ⟨.type "function",none,.func ⟨hs "basename",hs "basename",hPs (hAt hW [18]),.stmts (hBd (hAt hW [18])),hSc (hAt hW [18]),3,[],.none,.none,.none,.str (hs "cpy313.posixpath") 401,none,.ref 152,.none,0⟩, #[]⟩
noncomputable def ho154 : Obj := tuO #[]
noncomputable def ho155 : Obj := ⟨.none,none,.fields #[], #[]⟩
noncomputable def ho156 : Obj := tuO #[.str (hs "path") 453,.str (hs "sep") 454,.str (hs "dot") 455,.str (hs "dotdot") 456,.str (hs "_") 457,.str (hs "initial_slashes") 458,.str (hs "comps") 459,.str (hs "new_comps") 460,.str (hs "comp") 461]
noncomputable def ho157 : Obj := tuO #[]
noncomputable def ho158 : Obj := ⟨.none,none,.func ⟨hs "normpath",hs "normpath",hPs (hAt hW [19]),.stmts (hBd (hAt hW [19])),hSc (hAt hW [19]),0,[],.none,.none,.none,.none,none,.none,.none,0⟩, #[]⟩
noncomputable def ho159 : Obj := ⟨.type "code",none,.fields #[.str (hs "normpath") 450,.str (hs "normpath") 451,.str (hs "/claim/cut.py") 452,.int (114) 0,.int (1) 0,.int (0) 0,.int (0) 0,.int (3) 0,.ref 154,.bool true,.int (276) 0,.ref 155,.none,.ref 156,.ref 157,.ref 158,.int (462) 0,.int (114) 0,.str (hs "/claim/cut.py") 463], #[]⟩
noncomputable def ho160 : Obj := ⟨.type "function",none,.func ⟨hs "normpath",hs "normpath",hPs (hAt hW [19]),.stmts (hBd (hAt hW [19])),hSc (hAt hW [19]),3,[],.none,.none,.none,.str (hs "cpy313.posixpath") 401,none,.ref 159,.none,0⟩, #[]⟩
noncomputable def ho161 : Obj := tuO #[]
noncomputable def ho162 : Obj := ⟨.none,none,.fields #[], #[]⟩
noncomputable def ho163 : Obj := ⟨.none,none,.func ⟨hs "commonpath",hs "commonpath",hPs (hAt hW [20]),.stmts (hBd (hAt hW [20])),hSc (hAt hW [20]),0,[],.none,.none,.none,.none,none,.none,.none,0⟩, #[]⟩
noncomputable def ho164 : Obj := ⟨.type "code",none,.fields #[.str (hs "commonpath") 465,.str (hs "commonpath") 466,.str (hs "/claim/cut.py") 467,.int (139) 0,.int (1) 0,.int (0) 0,.int (0) 0,.int (3) 0,.ref 161,.bool true,.int (276) 0,.ref 162,.none,.none,.none,.ref 163,.int (468) 0,.int (139) 0,.str (hs "/claim/cut.py") 469], #[]⟩
noncomputable def ho165 : Obj := ⟨.type "function",none,.func ⟨hs "commonpath",hs "commonpath",hPs (hAt hW [20]),.stmts (hBd (hAt hW [20])),hSc (hAt hW [20]),3,[],.none,.none,.none,.str (hs "cpy313.posixpath") 401,none,.ref 164,.none,0⟩, #[]⟩
noncomputable def ho166 : Obj := ⟨.type "list",none,.seq #[.int (14) 474,.int (14) 475,.int (4) 476,.int (1) 477,.int (1) 478,.int (9) 479,.int (0) 480,.int (64) 481,.int (0) 482,.int (1342177280) 483,.int (0) 484,.int (0) 485,.int (0) 486,.int (0) 487,.int (0) 488,.int (17) 489,.int (0) 490,.int (13) 491,.int (11) 492,.int (9) 493,.int (0) 494,.int (64) 495,.int (0) 496,.int (1342177280) 497,.int (0) 498,.int (0) 499,.int (0) 500,.int (0) 501,.int (0) 502,.int (17) 503,.int (1) 504,.int (1) 505] 0, #[]⟩
noncomputable def ho167 : Obj := ⟨.type "dict",none,.dict #[] 0, #[]⟩
noncomputable def ho168 : Obj := tuO #[.none,.none]
noncomputable def ho169 : Obj := tuO #[.int (14) 0,.int (14) 0,.int (4) 0,.int (1) 0,.int (1) 0,.int (9) 0,.int (0) 0,.int (64) 0,.int (0) 0,.int (1342177280) 0,.int (0) 0,.int (0) 0,.int (0) 0,.int (0) 0,.int (0) 0,.int (17) 0,.int (0) 0,.int (13) 0,.int (11) 0,.int (9) 0,.int (0) 0,.int (64) 0,.int (0) 0,.int (1342177280) 0,.int (0) 0,.int (0) 0,.int (0) 0,.int (0) 0,.int (0) 0,.int (17) 0,.int (1) 0,.int (1) 0]
noncomputable def ho170 : Obj := ⟨.type "re.Pattern",none,.fields #[.str (hs "([&~|])") 472,.int (32) 507,.int (1) 0,.none,.none,.ref 169,.int (0) 0], #[]⟩
noncomputable def ho171 : Obj := ⟨.type "bytes_iterator",none,.fields #[.none,.int (24) 0], #[]⟩
noncomputable def ho172 : Obj := ⟨.type "dict",none,.dict #[⟨40,.int (40) 512,.str (hs "\\(") 516⟩,⟨41,.int (41) 518,.str (hs "\\)") 522⟩,⟨91,.int (91) 524,.str (hs "\\[") 528⟩,⟨93,.int (93) 530,.str (hs "\\]") 534⟩,⟨123,.int (123) 536,.str (hs "\\{") 540⟩,⟨125,.int (125) 542,.str (hs "\\}") 546⟩,⟨63,.int (63) 548,.str (hs "\\?") 552⟩,⟨42,.int (42) 554,.str (hs "\\*") 558⟩,⟨43,.int (43) 560,.str (hs "\\+") 564⟩,⟨45,.int (45) 566,.str (hs "\\-") 570⟩,⟨124,.int (124) 572,.str (hs "\\|") 576⟩,⟨94,.int (94) 578,.str (hs "\\^") 582⟩,⟨36,.int (36) 584,.str (hs "\\$") 588⟩,⟨92,.int (92) 590,.str (hs "\\\\") 594⟩,⟨46,.int (46) 596,.str (hs "\\.") 600⟩,⟨38,.int (38) 602,.str (hs "\\&") 606⟩,⟨126,.int (126) 608,.str (hs "\\~") 612⟩,⟨35,.int (35) 614,.str (hs "\\#") 618⟩,⟨32,.int (32) 620,.str (hs "\\ ") 624⟩,⟨9,.int (9) 626,.str ((⟨#[92,9]⟩ : PySem.Str)) 630⟩,⟨10,.int (10) 632,.str ((⟨#[92,10]⟩ : PySem.Str)) 636⟩,⟨13,.int (13) 638,.str ((⟨#[92,13]⟩ : PySem.Str)) 642⟩,⟨11,.int (11) 644,.str ((⟨#[92,11]⟩ : PySem.Str)) 648⟩,⟨12,.int (12) 650,.str ((⟨#[92,12]⟩ : PySem.Str)) 654⟩] 24, #[]⟩
noncomputable def ho173 : Obj := ⟨.type "dict",none,.dict #[] 2, #[]⟩
noncomputable def ho174 : Obj := tuO #[]
noncomputable def ho175 : Obj := ⟨.type "StopIteration",none,.fields #[.ref 174,.none,.none,.none,.bool false,.none], #[]⟩
noncomputable def ho176 : Obj := tuO #[]
noncomputable def ho177 : Obj := ⟨.none,none,.fields #[], #[]⟩
noncomputable def ho178 : Obj := tuO #[.str (hs "pattern") 660]
noncomputable def ho179 : Obj := tuO #[]
noncomputable def ho180 : Obj := ⟨.none,none,.func ⟨hs "escape",hs "escape",hPs (hAt hW [24]),.stmts (hBd (hAt hW [24])),hSc (hAt hW [24]),0,[],.none,.none,.none,.none,none,.none,.none,0⟩, #[]⟩
noncomputable def ho181 : Obj := ⟨.type "code",none,.fields #[.str (hs "escape") 657,.str (hs "escape") 658,.str (hs "/claim/cut.py") 659,.int (171) 0,.int (1) 0,.int (0) 0,.int (0) 0,.int (3) 0,.ref 176,.bool true,.int (276) 0,.ref 177,.none,.ref 178,.ref 179,.ref 180,.int (661) 0,.int (171) 0,.str (hs "/claim/cut.py") 662], #[]⟩
noncomputable def ho182 : Obj := ⟨.type "function",none,.func ⟨hs "escape",hs "escape",hPs (hAt hW [24]),.stmts (hBd (hAt hW [24])),hSc (hAt hW [24]),3,[],.none,.none,.none,.str (hs "re") 509,none,.ref 181,.none,0⟩, #[]⟩
noncomputable def ho183 : Obj := tuO #[]
noncomputable def ho184 : Obj := ⟨.none,none,.fields #[], #[]⟩
noncomputable def ho185 : Obj := tuO #[.str (hs "pat") 669,.str (hs "STAR") 670,.str (hs "QUESTION_MARK") 671,.str (hs "res") 672,.str (hs "add") 673,.str (hs "i") 674,.str (hs "n") 675,.str (hs "c") 676,.str (hs "j") 677,.str (hs "stuff") 678,.str (hs "chunks") 679,.str (hs "k") 680,.str (hs "chunk") 681]
noncomputable def ho186 : Obj := tuO #[]
noncomputable def ho187 : Obj := ⟨.none,none,.func ⟨hs "_translate",hs "_translate",hPs (hAt hW [26]),.stmts (hBd (hAt hW [26])),hSc (hAt hW [26]),0,[],.none,.none,.none,.none,none,.none,.none,0⟩, #[]⟩
noncomputable def ho188 : Obj := ⟨.type "code",none,.fields #[.str (hs "_translate") 666,.str (hs "_translate") 667,.str (hs "/claim/cut.py") 668,.int (178) 0,.int (3) 0,.int (0) 0,.int (0) 0,.int (3) 0,.ref 183,.bool true,.int (276) 0,.ref 184,.none,.ref 185,.ref 186,.ref 187,.int (682) 0,.int (178) 0,.str (hs "/claim/cut.py") 683], #[]⟩
noncomputable def ho189 : Obj := ⟨.type "function",none,.func ⟨hs "_translate",hs "_translate",hPs (hAt hW [26]),.stmts (hBd (hAt hW [26])),hSc (hAt hW [26]),3,[],.none,.none,.none,.str (hs "cpy313.fnmatch") 664,none,.ref 188,.none,0⟩, #[]⟩
noncomputable def ho190 : Obj := tuO #[]
noncomputable def ho191 : Obj := ⟨.none,none,.fields #[], #[]⟩
noncomputable def ho192 : Obj := tuO #[.str (hs "part") 690,.str (hs "sign") 691,.str (hs "body") 692,.str (hs "barred") 693,.str (hs "k") 694,.str (hs "found") 695,.str (hs "low") 696,.str (hs "high") 697]
noncomputable def ho193 : Obj := tuO #[]
noncomputable def ho194 : Obj := ⟨.none,none,.func ⟨hs "_law_one",hs "_law_one",hPs (hAt hW [28]),.stmts (hBd (hAt hW [28])),hSc (hAt hW [28]),0,[],.none,.none,.none,.none,none,.none,.none,0⟩, #[]⟩
noncomputable def ho195 : Obj := ⟨.type "code",none,.fields #[.str (hs "_law_one") 687,.str (hs "_law_one") 688,.str (hs "/claim/cut.py") 689,.int (241) 0,.int (2) 0,.int (0) 0,.int (0) 0,.int (3) 0,.ref 190,.bool true,.int (276) 0,.ref 191,.none,.ref 192,.ref 193,.ref 194,.int (698) 0,.int (241) 0,.str (hs "/claim/cut.py") 699], #[]⟩
noncomputable def ho196 : Obj := ⟨.type "function",none,.func ⟨hs "_law_one",hs "_law_one",hPs (hAt hW [28]),.stmts (hBd (hAt hW [28])),hSc (hAt hW [28]),3,[],.none,.none,.none,.str (hs "law_dn0069_05") 685,none,.ref 195,.none,0⟩, #[]⟩
noncomputable def ho197 : Obj := tuO #[]
noncomputable def ho198 : Obj := ⟨.none,none,.fields #[], #[]⟩
noncomputable def ho199 : Obj := ⟨.none,none,.func ⟨hs "_law_takes",hs "_law_takes",hPs (hAt hW [29]),.stmts (hBd (hAt hW [29])),hSc (hAt hW [29]),0,[],.none,.none,.none,.none,none,.none,.none,0⟩, #[]⟩
noncomputable def ho200 : Obj := ⟨.type "code",none,.fields #[.str (hs "_law_takes") 701,.str (hs "_law_takes") 702,.str (hs "/claim/cut.py") 703,.int (265) 0,.int (3) 0,.int (0) 0,.int (0) 0,.int (3) 0,.ref 197,.bool true,.int (276) 0,.ref 198,.none,.none,.none,.ref 199,.int (704) 0,.int (265) 0,.str (hs "/claim/cut.py") 705], #[]⟩
noncomputable def ho201 : Obj := ⟨.type "function",none,.func ⟨hs "_law_takes",hs "_law_takes",hPs (hAt hW [29]),.stmts (hBd (hAt hW [29])),hSc (hAt hW [29]),3,[],.none,.none,.none,.str (hs "law_dn0069_05") 685,none,.ref 200,.none,0⟩, #[]⟩
noncomputable def ho202 : Obj := tuO #[]
noncomputable def ho203 : Obj := ⟨.none,none,.fields #[], #[]⟩
noncomputable def ho204 : Obj := ⟨.none,none,.func ⟨hs "_law_means",hs "_law_means",hPs (hAt hW [30]),.stmts (hBd (hAt hW [30])),hSc (hAt hW [30]),0,[],.none,.none,.none,.none,none,.none,.none,0⟩, #[]⟩
noncomputable def ho205 : Obj := ⟨.type "code",none,.fields #[.str (hs "_law_means") 707,.str (hs "_law_means") 708,.str (hs "/claim/cut.py") 709,.int (273) 0,.int (2) 0,.int (0) 0,.int (0) 0,.int (3) 0,.ref 202,.bool true,.int (276) 0,.ref 203,.none,.none,.none,.ref 204,.int (710) 0,.int (273) 0,.str (hs "/claim/cut.py") 711], #[]⟩
noncomputable def ho206 : Obj := ⟨.type "function",none,.func ⟨hs "_law_means",hs "_law_means",hPs (hAt hW [30]),.stmts (hBd (hAt hW [30])),hSc (hAt hW [30]),3,[],.none,.none,.none,.str (hs "law_dn0069_05") 685,none,.ref 205,.none,0⟩, #[]⟩
noncomputable def ho207 : Obj := tuO #[]
noncomputable def ho208 : Obj := ⟨.none,none,.fields #[], #[]⟩
noncomputable def ho209 : Obj := tuO #[.str (hs "code") 716,.str (hs "pieces") 717]
noncomputable def ho210 : Obj := tuO #[]
noncomputable def ho211 : Obj := ⟨.none,none,.func ⟨hs "_law_dressed",hs "_law_dressed",hPs (hAt hW [31]),.stmts (hBd (hAt hW [31])),hSc (hAt hW [31]),0,[],.none,.none,.none,.none,none,.none,.none,0⟩, #[]⟩
noncomputable def ho212 : Obj := ⟨.type "code",none,.fields #[.str (hs "_law_dressed") 713,.str (hs "_law_dressed") 714,.str (hs "/claim/cut.py") 715,.int (279) 0,.int (1) 0,.int (0) 0,.int (0) 0,.int (3) 0,.ref 207,.bool true,.int (276) 0,.ref 208,.none,.ref 209,.ref 210,.ref 211,.int (718) 0,.int (279) 0,.str (hs "/claim/cut.py") 719], #[]⟩
noncomputable def ho213 : Obj := ⟨.type "function",none,.func ⟨hs "_law_dressed",hs "_law_dressed",hPs (hAt hW [31]),.stmts (hBd (hAt hW [31])),hSc (hAt hW [31]),3,[],.none,.none,.none,.str (hs "law_dn0069_05") 685,none,.ref 212,.none,0⟩, #[]⟩
noncomputable def ho214 : Obj := tuO #[]
noncomputable def ho215 : Obj := ⟨.none,none,.fields #[], #[]⟩
noncomputable def ho216 : Obj := tuO #[.str (hs "sums") 724,.str (hs "tree") 725,.str (hs "k") 726,.str (hs "left") 727,.str (hs "path") 728,.str (hs "step") 729]
noncomputable def ho217 : Obj := tuO #[]
noncomputable def ho218 : Obj := ⟨.none,none,.func ⟨hs "_law_tree",hs "_law_tree",hPs (hAt hW [32]),.stmts (hBd (hAt hW [32])),hSc (hAt hW [32]),0,[],.none,.none,.none,.none,none,.none,.none,0⟩, #[]⟩
noncomputable def ho219 : Obj := ⟨.type "code",none,.fields #[.str (hs "_law_tree") 721,.str (hs "_law_tree") 722,.str (hs "/claim/cut.py") 723,.int (282) 0,.int (1) 0,.int (0) 0,.int (0) 0,.int (3) 0,.ref 214,.bool true,.int (276) 0,.ref 215,.none,.ref 216,.ref 217,.ref 218,.int (730) 0,.int (282) 0,.str (hs "/claim/cut.py") 731], #[]⟩
noncomputable def ho220 : Obj := ⟨.type "function",none,.func ⟨hs "_law_tree",hs "_law_tree",hPs (hAt hW [32]),.stmts (hBd (hAt hW [32])),hSc (hAt hW [32]),3,[],.none,.none,.none,.str (hs "law_dn0069_05") 685,none,.ref 219,.none,0⟩, #[]⟩
noncomputable def ho221 : Obj := tuO #[]
noncomputable def ho222 : Obj := ⟨.none,none,.fields #[], #[]⟩
noncomputable def ho223 : Obj := tuO #[.str (hs "pattern") 736,.str (hs "path") 737,.str (hs "star") 738,.str (hs "lists") 739,.str (hs "head") 740,.str (hs "tail") 741,.str (hs "above") 742,.str (hs "name") 743]
noncomputable def ho224 : Obj := tuO #[]
noncomputable def ho225 : Obj := ⟨.none,none,.func ⟨hs "_law_behind",hs "_law_behind",hPs (hAt hW [33]),.stmts (hBd (hAt hW [33])),hSc (hAt hW [33]),0,[],.none,.none,.none,.none,none,.none,.none,0⟩, #[]⟩
noncomputable def ho226 : Obj := ⟨.type "code",none,.fields #[.str (hs "_law_behind") 733,.str (hs "_law_behind") 734,.str (hs "/claim/cut.py") 735,.int (293) 0,.int (4) 0,.int (0) 0,.int (0) 0,.int (3) 0,.ref 221,.bool true,.int (276) 0,.ref 222,.none,.ref 223,.ref 224,.ref 225,.int (744) 0,.int (293) 0,.str (hs "/claim/cut.py") 745], #[]⟩
noncomputable def ho227 : Obj := ⟨.type "function",none,.func ⟨hs "_law_behind",hs "_law_behind",hPs (hAt hW [33]),.stmts (hBd (hAt hW [33])),hSc (hAt hW [33]),3,[],.none,.none,.none,.str (hs "law_dn0069_05") 685,none,.ref 226,.none,0⟩, #[]⟩
noncomputable def ho228 : Obj := tuO #[]
noncomputable def ho229 : Obj := ⟨.none,none,.fields #[], #[]⟩
noncomputable def ho230 : Obj := ⟨.none,none,.func ⟨hs "_law_front",hs "_law_front",hPs (hAt hW [34]),.stmts (hBd (hAt hW [34])),hSc (hAt hW [34]),0,[],.none,.none,.none,.none,none,.none,.none,0⟩, #[]⟩
noncomputable def ho231 : Obj := ⟨.type "code",none,.fields #[.str (hs "_law_front") 747,.str (hs "_law_front") 748,.str (hs "/claim/cut.py") 749,.int (307) 0,.int (2) 0,.int (0) 0,.int (0) 0,.int (3) 0,.ref 228,.bool true,.int (276) 0,.ref 229,.none,.none,.none,.ref 230,.int (750) 0,.int (307) 0,.str (hs "/claim/cut.py") 751], #[]⟩
noncomputable def ho232 : Obj := ⟨.type "function",none,.func ⟨hs "_law_front",hs "_law_front",hPs (hAt hW [34]),.stmts (hBd (hAt hW [34])),hSc (hAt hW [34]),3,[],.none,.none,.none,.str (hs "law_dn0069_05") 685,none,.ref 231,.none,0⟩, #[]⟩
noncomputable def ho233 : Obj := tuO #[]
noncomputable def ho234 : Obj := ⟨.none,none,.fields #[], #[]⟩
noncomputable def ho235 : Obj := ⟨.none,none,.func ⟨hs "law",hs "law",hPs (hAt hW [35]),.stmts (hBd (hAt hW [35])),hSc (hAt hW [35]),0,[],.none,.none,.none,.none,none,.none,.none,0⟩, #[]⟩
noncomputable def ho236 : Obj := ⟨.type "code",none,.fields #[.str (hs "law") 753,.str (hs "law") 754,.str (hs "/claim/cut.py") 755,.int (318) 0,.int (1) 0,.int (0) 0,.int (0) 0,.int (3) 0,.ref 233,.bool true,.int (276) 0,.ref 234,.none,.none,.none,.ref 235,.int (756) 0,.int (318) 0,.str (hs "/claim/cut.py") 757], #[]⟩
noncomputable def ho237 : Obj := ⟨.type "function",none,.func ⟨hs "law",hs "law",hPs (hAt hW [35]),.stmts (hBd (hAt hW [35])),hSc (hAt hW [35]),3,[],.none,.none,.none,.str (hs "law_dn0069_05") 685,none,.ref 236,.none,0⟩, #[]⟩
noncomputable def hp35 : Heap := ⟨Array.mk [boot_o_0 P,ho1 P,ho2 P,ho3xxx P,boot_o_4 P,boot_o_5 P,boot_o_6 P,boot_o_7 P,boot_o_8 P,boot_o_9 P,boot_o_10 P,ho11 P,ho12,ho13 P,ho14,ho15,ho16,ho17,ho18,ho19,ho20 P,ho21 P,ho22,ho23,ho24,ho25,ho26,ho27,ho28,ho29xx,ho30,ho31,ho32,ho33,ho34,ho35,ho36,ho37,ho38,ho39,ho40,ho41,ho42,ho43,ho44,ho45,ho46,ho47,ho48 P,ho49,ho50,ho51,ho52,ho53,ho54,ho55,ho56,ho57,ho58,ho59,ho60,ho61 P,ho62,ho63,ho64,ho65,ho66,ho67 P,ho68,ho69,ho70,ho71,ho72,ho73,ho74,ho75,ho76,ho77,ho78,ho79,ho80,ho81,ho82,ho83,ho84,ho85,ho86,ho87,ho88,ho89,ho90,ho91,ho92,ho93,ho94 P,ho95,ho96,ho97,ho98,ho99,ho100,ho101,ho102,ho103,ho104,ho105,ho106,ho107,ho108,ho109,ho110,ho111,ho112,ho113,ho114,ho115,ho116,ho117,ho118,ho119,ho120,ho121,ho122,ho123,ho124,ho125,ho126,ho127,ho128,ho129,ho130,ho131,ho132,ho133,ho134,ho135,ho136,ho137,ho138,ho139,ho140,ho141,ho142,ho143,ho144,ho145,ho146,ho147,ho148,ho149,ho150,ho151,ho152,ho153,ho154,ho155,ho156,ho157,ho158,ho159,ho160,ho161,ho162,ho163,ho164,ho165,ho166,ho167,ho168,ho169,ho170,ho171,ho172,ho173,ho174,ho175,ho176,ho177,ho178,ho179,ho180,ho181,ho182,ho183,ho184,ho185,ho186,ho187,ho188,ho189,ho190,ho191,ho192,ho193,ho194,ho195,ho196,ho197,ho198,ho199,ho200,ho201,ho202,ho203,ho204,ho205,ho206,ho207,ho208,ho209,ho210,ho211,ho212,ho213,ho214,ho215,ho216,ho217,ho218,ho219,ho220,ho221,ho222,ho223,ho224,ho225,ho226,ho227,ho228,ho229,ho230,ho231,ho232,ho233,ho234,ho235,ho236,ho237],{ }⟩
noncomputable def zk : Frag := [(2,ho2 P),(3,ho3xxx P),(110,ho110),(111,ho111),(124,ho124),(125,ho125),(131,ho131),(132,ho132),(138,ho138),(139,ho139),(145,ho145),(146,ho146),(152,ho152),(153,ho153),(159,ho159),(160,ho160),(164,ho164),(165,ho165),(169,ho169),(170,ho170),(172,ho172),(181,ho181),(182,ho182),(184,ho184),(188,ho188),(189,ho189),(195,ho195),(196,ho196),(200,ho200),(201,ho201),(205,ho205),(206,ho206),(212,ho212),(213,ho213),(219,ho219),(220,ho220),(226,ho226),(227,ho227),(231,ho231),(232,ho232),(236,ho236),(237,ho237)]
noncomputable abbrev zas : List Addr := [2,3,110,111,124,125,131,132,138,139,145,146,152,153,159,160,164,165,169,170,172,181,182,184,188,189,195,196,200,201,205,206,212,213,219,220,226,227,231,232,236,237]
theorem zkeys (P : Params) : zas = (zk P).map (·.1) := rfl
noncomputable abbrev hPr : Program := PySem.Challenge.rw_dn0069_05.row.prog
noncomputable abbrev hB : List Stmt := behindTheImports hPr
noncomputable def hEnv : Env := { scope := hPr.main.scope,locals := mainNs,globals := mainNs,cells := [],code := PySem.Value.ref 30,frame := some 31 }
noncomputable abbrev hC : Code := .body hB hEnv
theorem hpre (w : World) (os : OsState) : topGo treeTable hPr w 28 (some (PySem.Value.ref 6)) 12 (⟨hp0 (w).params,Array.mk [],{ },276,os⟩ : Shared) (topStub hPr) = some ((⟨hp_pre (w).params,Array.mk [],{ },282,os⟩ : Shared),⟨denote treeTable hC,hC,{ line := 0,col := 0,endLine := 0,endCol := 0 },[topFrame ({ line := 0,col := 0,endLine := 0,endCol := 0 } : Pos)]⟩) := by kernel_rfl
theorem hblock (w : World) (os : OsState) : segRun treeTable hPr w 28 (some (PySem.Value.ref 6)) 1 (0 + 1) (⟨hp_pre (w).params,Array.mk [],{ },282,os⟩ : Shared) (blockOf hB hEnv hC { line := 0,col := 0,endLine := 0,endCol := 0 } [topFrame ({ line := 0,col := 0,endLine := 0,endCol := 0 } : Pos)]) = some (.next,(⟨hp_pre (w).params,Array.mk [],{ },282,os⟩ : Shared),hC,{ line := 0,col := 0,endLine := 0,endCol := 0 }) := by kernel_rfl
theorem hseg3 (w : World) : ∀ os : OsState,segRun treeTable hPr (w) 28 (some (PySem.Value.ref 6)) 1 (69 + 1) (⟨hp_pre (w).params,Array.mk [],{ },282,os⟩ : Shared) (piecesOf ((hB.drop 0).take 3) hEnv hC { line := 0,col := 0,endLine := 0,endCol := 0 } [topFrame ({ line := 0,col := 0,endLine := 0,endCol := 0 } : Pos)]) = some (.next,(⟨hp3 (w).params,Array.mk [],{ },300,os⟩ : Shared),hC,{ line := 6,col := 0,endLine := 10,endCol := 12 }) := by
 intro os; kernel_rfl
theorem hseg4 (w : World) : ∀ os : OsState,segRun treeTable hPr (w) 28 (some (PySem.Value.ref 6)) 1 (9 + 1) (⟨hp3 (w).params,Array.mk [],{ },300,os⟩ : Shared) (piecesOf ((hB.drop 3).take 1) hEnv hC { line := 6,col := 0,endLine := 10,endCol := 12 } [topFrame ({ line := 0,col := 0,endLine := 0,endCol := 0 } : Pos)]) = some (.next,(⟨hp4 (w).params,Array.mk [],{ },302,os⟩ : Shared),hC,{ line := 11,col := 0,endLine := 11,endCol := 8 }) := by
 intro os; kernel_rfl
theorem rows2 (r0 r1 : String) {P : World → Prop} (h00 : ∀ w : World,P ((w.withFollow r1 false).withFollow r0 false)) (h01 : ∀ w : World,P ((w.withFollow r1 true).withFollow r0 false)) (h10 : ∀ w : World,P ((w.withFollow r1 false).withFollow r0 true)) (h11 : ∀ w : World,P ((w.withFollow r1 true).withFollow r0 true)) : ∀ w,P w := (fun w => byRow2 r0 (P := fun w => P w) (fun w => byRow2 r1 (P := fun w => P (w.withFollow r0 false)) h00 h01 w) (fun w => byRow2 r1 (P := fun w => P (w.withFollow r0 true)) h10 h11 w) w)
noncomputable abbrev hS35 (w : World) : Prop := ∀ os : OsState,segRun treeTable hPr (w) 28 (some (PySem.Value.ref 6)) 1 (2538 + 1) (⟨hp4 (w).params,Array.mk [],{ },302,os⟩ : Shared) (piecesOf ((hB.drop 4).take 31) hEnv hC { line := 11,col := 0,endLine := 11,endCol := 8 } [topFrame ({ line := 0,col := 0,endLine := 0,endCol := 0 } : Pos)]) = some (.next,(⟨hp35 (w).params,Array.mk [],{ },759,os⟩ : Shared),hC,{ line := 318,col := 0,endLine := 350,endCol := 15 })
theorem zjG (w : World) : hS35 (World.withFollow (World.withFollow w "special-get-raises" false) "comprehension-iter-twice" false) := by
 intro os; kernel_rfl
theorem zjF (w : World) : hS35 (World.withFollow (World.withFollow w "special-get-raises" true) "comprehension-iter-twice" false) := by
 intro os; kernel_rfl
theorem zjE (w : World) : hS35 (World.withFollow (World.withFollow w "special-get-raises" false) "comprehension-iter-twice" true) := by
 intro os; kernel_rfl
theorem zjD (w : World) : hS35 (World.withFollow (World.withFollow w "special-get-raises" true) "comprehension-iter-twice" true) := by
 intro os; kernel_rfl
theorem hseg35 (w : World) : ∀ os : OsState,segRun treeTable hPr (w) 28 (some (PySem.Value.ref 6)) 1 (2538 + 1) (⟨hp4 (w).params,Array.mk [],{ },302,os⟩ : Shared) (piecesOf ((hB.drop 4).take 31) hEnv hC { line := 11,col := 0,endLine := 11,endCol := 8 } [topFrame ({ line := 0,col := 0,endLine := 0,endCol := 0 } : Pos)]) = some (.next,(⟨hp35 (w).params,Array.mk [],{ },759,os⟩ : Shared),hC,{ line := 318,col := 0,endLine := 350,endCol := 15 }) := rows2 "comprehension-iter-twice" "special-get-raises" (P := hS35) zjG zjF zjE zjD w
theorem hfin (w : World) (os : OsState) : topRun treeTable hPr w 28 (some (PySem.Value.ref 6)) (1 + 1) (⟨hp35 (w).params,Array.mk [],{ },759,os⟩ : Shared) (restOf [] hEnv hC { line := 318,col := 0,endLine := 350,endCol := 15 } [topFrame ({ line := 0,col := 0,endLine := 0,endCol := 0 } : Pos)]) = some (⟨hp35 (w).params,Array.mk [],{ },759,os⟩ : Shared) := by kernel_rfl
theorem hcat : hB = (((hB.drop 0).take 3) ++ (((hB.drop 3).take 1) ++ (((hB.drop 4).take 31) ++ []))) := by kernel_rfl
theorem hrun (w : World) (os : OsState) : topRun treeTable hPr w 28 (some (PySem.Value.ref 6)) (12 + ((0 + 1) + ((69 + 1) + ((9 + 1) + ((2538 + 1) + (1 + 1)))))) (⟨hp0 (w).params,Array.mk [],{ },276,os⟩ : Shared) (topStub hPr) = some (⟨hp35 (w).params,Array.mk [],{ },759,os⟩ : Shared) := by
 have k := (piece_app (hseg3 w os) (piece_app (hseg4 w os) (piece_app (hseg35 w os) (hfin w os))))
 rw [← hcat] at k
 exact go_top (hpre w os) (piece_block (hblock w os) k)
theorem hsize (w : World) : ((hp0 w.params).isNs mainGlobals && (Array.mk [] : Array GenState).size == 0,(hp0 w.params).objs.size,(hp0 w.params).nsMap mainGlobals "__annotations__") = (true,28,(some (PySem.Value.ref 6) : Option PySem.Value)) := by kernel_rfl
theorem hlooks (w : World) : (fun os => ((staticsOk (importedModules hPr.main.body) (hp0 w.params) (hp35 w.params) && namesBound hPr (hp35 w.params) && gensDone (⟨hp35 (w).params,Array.mk [],{ },759,os⟩ : Shared) && laidKept (hp0 w.params) (hp35 w.params)),openSeen view05 [PySem.Str.ofString "_twin_re_1",PySem.Str.ofString "_special_chars_map"] (importedModules hPr.main.body) (fun s => xlAt view05 [] s && recOk (RowW.records PySem.Challenge.rw_dn0069_05.row.toRowW) s) true (⟨hp35 (w).params,Array.mk [],{ },759,os⟩ : Shared),obsZ zas (⟨hp35 (w).params,Array.mk [],{ },759,os⟩ : Shared))) = fun _ => (true,openGood view05 [PySem.Str.ofString "_twin_re_1",PySem.Str.ofString "_special_chars_map"],valZ zk 238 759 w) := by kernel_rfl
theorem hopen (w : World) : (fencedOpening treeTable hPr w 5358).map (fun s => (s.heap,s.gens,s.drawn,s.toks)) = some (hp0 w.params,Array.mk [],{ },276) := by kernel_rfl
theorem said05 : PySem.Challenge.rw_dn0069_05.wellSaid = true := by
 kernel_rfl
theorem hleft : LeftO hPr view05 [PySem.Str.ofString "_twin_re_1",PySem.Str.ofString "_special_chars_map"] (fun s => xlAt view05 [] s && recOk (RowW.records PySem.Challenge.rw_dn0069_05.row.toRowW) s) (obsZ zas) (valZ zk 238 759) 5358 := LeftO.of_pieces (H₀ := hp0) (H₁ := hp35) (gs₀ := Array.mk []) (gs₁ := Array.mk []) (d₀ := { }) (d₁ := { }) (k₀ := 276) (k₁ := 759) (m₀ := 28) (ann := some (PySem.Value.ref 6)) (M := (12 + ((0 + 1) + ((69 + 1) + ((9 + 1) + ((2538 + 1) + (1 + 1))))))) hopen hsize hrun (by kernel_rfl) hlooks
end Mine
end H05x
section
open PySem
namespace Mine
noncomputable abbrev lobj (vs : Array Value) (n : Nat) : Obj := { cls := .type "list",data := .seq vs n }
noncomputable abbrev tobj (vs : Array Value) (n : Nat) : Obj := { cls := .type "tuple",data := .seq vs n }
noncomputable abbrev appObj (a : Addr) : Obj := { cls := .type "builtin_function_or_method",data := .fields #[.builtin "list.append",.ref a] }
theorem zdq : builtinKind "issubclass.nested" = none := by decide +kernel
theorem zc3 : plainId "issubclass.nested" = true := by decide +kernel
theorem zcY (a b c : Value) : argsOk "issubclass.nested" ⟨[a,b,c],[]⟩ := by unfold argsOk; kernel_rfl
theorem zfQ : isSubtype (.type "str") (.type "str") = pure true := by rw [isSubtype_type]; kernel_rfl
section
variable {prog : Program} {w : World} {A : Around} {E : VP}
theorem zdN (dep : Int) (tk : Tok) : Meets (Builtin.«issubclass.nested» ⟨[.type "str",.type "str",.int dep tk],[]⟩) (fun _ R s => R (.ok (.ret (.bool true))) s) :=
 .of_wp fun prog w A R s h => by
  obtain ⟨hh,g,d,t,os⟩ := s
  have f1 := zfQ
  have f2 : typeOf (.type "str") = pure (.type "type") := rfl
  repeat (any_goals (first | assumption | (rw [f1]) | wp_step))
  all_goals exact ⟨_,rfl,h⟩
theorem zdb {tp : Addr} {c2 : Value} {n : Nat} {tk : Tok} {s : Shared} {Q : Fin → Shared → Prop} (htp : s.heap.get? tp = some { cls := .type "tuple",data := .seq [Value.type "str",c2].toArray n })
  (hq : ∀ tk',Q (.done (.ret (.bool true))) { s with toks := tk' }) : wpAny (model prog w) A (Builtin.«issubclass.nested» ⟨[.type "str",.ref tp,.int 0 tk],[]⟩) Q E s := by
 obtain ⟨h,g,d,t,os⟩ := s
 have hT2 : (⟨h,g,d,t,os⟩ : Shared).TypeIs (.ref tp) "tuple" := ⟨_,htp,rfl⟩
 have f1 := F.isi_sub_tuple
 repeat (any_goals (first | assumption | ((with_reducible show wpAny _ _ (call (Value.builtin "issubclass.nested") _ _) _ _ _); refine call_function_meets zdq zc3 F.entry_issubclass_nested (zcY _ _ _) (zdN _ _) ?_) | wp_step))
 exact hq _
theorem zdO {tp : Addr} {c2 : Value} {n : Nat} {s : Shared} {Q : VP} (htp : s.heap.get? tp = some { cls := .type "tuple",data := .seq [Value.type "str",c2].toArray n })
  (hq : ∀ tk',Q (.bool true) { s with toks := tk' }) : wpAny (model prog w) A (call (.builtin "issubclass") [.type "str",.ref tp]) Q E s := by
 have g : Meets (Builtin.«issubclass» ⟨[.type "str",.ref tp],[]⟩) (fun _ R s => s.heap.get? tp = some { cls := .type "tuple",data := .seq [Value.type "str",c2].toArray n } ∧ ∀ tk',R (.ok (.ret (.bool true))) { s with toks := tk' }) :=
  fun _ _ _ _ _ hs => PyProof.Rows.issubclass_outer (zdb hs.1 fun tk' => hs.2 tk')
 exact PyProof.Rows.call_issubclass g ⟨htp,fun tk' => hq tk'⟩
end
theorem zfR : isSubtype (.type "str") (.type "list") = pure false := by rw [isSubtype_type]; kernel_rfl
theorem zfa : isSubtype (.type "str") (.type "tuple") = pure false := by rw [isSubtype_type]; kernel_rfl
theorem zez : isSubtype (.type "list") (.type "list") = pure true := by rw [isSubtype_type]; kernel_rfl
section
variable {prog : Program} {w : World} {A : Around} {E : VP}
theorem zdc {x : Str} {u : Tok} {T : String} (hne : (Value.type "str" == Value.type T) = false) (hty : typeOf (.type T) = pure (.type "type")) (hsub : isSubtype (.type "str") (.type T) = pure false) (dep : Int) (tk : Tok) :
  Meets (Builtin.«isinstance.nested» ⟨[.str x u,.type T,.int dep tk],[]⟩) (fun _ R s => ∀ tk',R (.ok (.ret (.bool false))) { s with toks := tk' }) :=
 .of_wp fun prog w A R s h => by
  obtain ⟨hh,g,d,t,os⟩ := s
  exact isinstance_nested_false_str hne hty hsub ⟨_,rfl,h _⟩
theorem zfx {a : Addr} {vs : Array Value} {n : Nat} (dep : Int) (tk : Tok) :
  Meets (Builtin.«isinstance.nested» ⟨[.ref a,.type "list",.int dep tk],[]⟩) (fun _ R s => s.heap.get? a = some (lobj vs n) ∧ ∀ tk',R (.ok (.ret (.bool true))) { s with toks := tk' }) :=
 .of_wp fun prog w A R s h => by
  obtain ⟨hh,g,d,t,os⟩ := s
  obtain ⟨hl,h⟩ := h
  have hT : (⟨hh,g,d,t,os⟩ : Shared).TypeIs (.ref a) "list" := ⟨_,hl,rfl⟩
  refine isinstance_nested_true rfl hT rfl zez ⟨_,rfl,h _⟩
set_option maxHeartbeats 4000000 in
theorem zfw {x : Str} {u : Tok} {tp : Addr} {n : Nat} {tk : Tok} {s : Shared} {Q : Fin → Shared → Prop} (htp : s.heap.get? tp = some { cls := .type "tuple",data := .seq [Value.type "list",Value.type "tuple"].toArray n })
  (hq : ∀ tk',Q (.done (.ret (.bool false))) { s with toks := tk' }) : wpAny (model prog w) A (Builtin.«isinstance.nested» ⟨[.str x u,.ref tp,.int 0 tk],[]⟩) Q E s := by
 obtain ⟨h,g,d,t,os⟩ := s
 have hT2 : (⟨h,g,d,t,os⟩ : Shared).TypeIs (.ref tp) "tuple" := ⟨_,htp,rfl⟩
 have hx : ∀ t',(⟨h,g,d,t',os⟩ : Shared).TypeIs (.str x u) "str" := fun _ => rfl
 have f1 := F.isi_sub_tuple
 have k1 := fun tk => zdc (x := x) (u := u) (T := "list") (by decide) rfl zfR 1 tk
 have k2 := fun tk => zdc (x := x) (u := u) (T := "tuple") (by decide) rfl zfa 1 tk
 repeat (any_goals (first | assumption | exact hx _ | ((with_reducible show wpAny _ _ (call (Value.builtin "isinstance.nested") _ _) _ _ _); refine call_function_meets F.kind_isinstance_nested F.plain_isinstance_nested F.entry_isinstance_nested (F.args_isinstance_nested_3 _ _ _) (by first | exact k1 _ | exact k2 _) (fun tk' => ?_)) | wp_step))
 all_goals exact hq _
theorem zeL {a : Addr} {vs : Array Value} {k : Nat} {tp : Addr} {n : Nat} {c2 : Value} {tk : Tok} {s : Shared} {Q : Fin → Shared → Prop} (hl : s.heap.get? a = some (lobj vs k)) (htp : s.heap.get? tp = some { cls := .type "tuple",data := .seq [Value.type "list",c2].toArray n })
  (hq : ∀ tk',Q (.done (.ret (.bool true))) { s with toks := tk' }) : wpAny (model prog w) A (Builtin.«isinstance.nested» ⟨[.ref a,.ref tp,.int 0 tk],[]⟩) Q E s := by
 obtain ⟨h,g,d,t,os⟩ := s
 have hT2 : (⟨h,g,d,t,os⟩ : Shared).TypeIs (.ref tp) "tuple" := ⟨_,htp,rfl⟩
 have hx : ∀ t',(⟨h,g,d,t',os⟩ : Shared).TypeIs (.ref a) "list" := fun _ => ⟨_,hl,rfl⟩
 have f1 := F.isi_sub_tuple
 have k1 := fun tk => zfx (a := a) (vs := vs) (n := k) 1 tk
 repeat (any_goals (first | assumption | exact hx _ | ((with_reducible show wpAny _ _ (call (Value.builtin "isinstance.nested") _ _) _ _ _); refine call_function_meets F.kind_isinstance_nested F.plain_isinstance_nested F.entry_isinstance_nested (F.args_isinstance_nested_3 _ _ _) (k1 _) ⟨hl,fun tk' => ?_⟩) | wp_step))
 all_goals exact hq _
theorem zgn {x : Str} {u : Tok} {tp : Addr} {n : Nat} {s : Shared} {Q : VP} (htp : s.heap.get? tp = some { cls := .type "tuple",data := .seq [Value.type "list",Value.type "tuple"].toArray n })
  (hq : ∀ tk',Q (.bool false) { s with toks := tk' }) : wpAny (model prog w) A (call (.builtin "isinstance") [.str x u,.ref tp]) Q E s := by
 have g : Meets (Builtin.«isinstance» ⟨[.str x u,.ref tp],[]⟩) (fun _ R s => s.heap.get? tp = some { cls := .type "tuple",data := .seq [Value.type "list",Value.type "tuple"].toArray n } ∧ ∀ tk',R (.ok (.ret (.bool false))) { s with toks := tk' }) :=
  fun _ _ _ _ s hs => isinstance_outer (zfw hs.1 fun tk' => hs.2 tk') (Shared.TypeIs.not_mainsLoader (T := "str") (s := s) rfl)
 exact call_isinstance g ⟨htp,fun tk' => hq tk'⟩
theorem zfH {a : Addr} {vs : Array Value} {k : Nat} {tp : Addr} {n : Nat} {c2 : Value} {s : Shared} {Q : VP} (hl : s.heap.get? a = some (lobj vs k)) (htp : s.heap.get? tp = some { cls := .type "tuple",data := .seq [Value.type "list",c2].toArray n })
  (hq : ∀ tk',Q (.bool true) { s with toks := tk' }) : wpAny (model prog w) A (call (.builtin "isinstance") [.ref a,.ref tp]) Q E s := by
 have g : Meets (Builtin.«isinstance» ⟨[.ref a,.ref tp],[]⟩) (fun _ R s => s.heap.get? a = some (lobj vs k) ∧ s.heap.get? tp = some { cls := .type "tuple",data := .seq [Value.type "list",c2].toArray n } ∧ ∀ tk',R (.ok (.ret (.bool true))) { s with toks := tk' }) :=
  fun _ _ _ _ s hs => isinstance_outer (zeL hs.1 hs.2.1 fun tk' => hs.2.2 tk') (Shared.TypeIs.not_mainsLoader (T := "list") (s := s) ⟨_,hs.1,rfl⟩)
 exact call_isinstance g ⟨hl,htp,fun tk' => hq tk'⟩
end
section
variable {prog : Program} {w : World} {A : Around} {E : VP} {s : Shared}
theorem zgI {l : Addr} {items : Array Value} {n k : Nat} {i : Int} {t : Tok} {v : Value} {Q : Unit → Shared → Prop} (hl : s.heap.IsList l items) (ho : s.heap.get? l = some { cls := .type "list",dict := none,data := .seq items n,slots := #[] }) (hfit : Builtin.List.listFitsIndex i = true)
  (hj : seqIndex? i items.size = some k) (hk : k < items.size)
  (hQ : Q () { s with heap := s.heap.update l (Obj.mapSeq fun xs => xs.setIfInBounds k v) }) : wpAny (model prog w) A (setItem (.ref l) (.int i t) v) Q E s := by
 unfold setItem
 try with_reducible refine wpAny_holding ?_
 first | refine wb (wpAny_pure ?_) | skip
 refine wb (wpAny_sequenceKey hl.typeIs (by decide) ?_)
 refine wb (wpAny_callSpecial?_slot (name := Str.ofString "__setitem__") hl.typeIs slot_list_setitem
  (wpAny_call_entry slot_list_setitem hl.typeIs entry_list_setitem ?_ (args_list_setitem _ _ _)))
 show wpAny _ _ (Builtin.List.listSubscript? (.int i t) >>= _) _ _ s
 refine wb (wpAny_listSubscript_int hfit ?_)
 clear hfit
 have hx' : items[k]? = some items[k] := Array.getElem?_eq_getElem hk
 cases i with
 | ofNat j =>
  have ejk : j = k := by
   unfold seqIndex? at hj
   simp at hj
   split at hj <;> omega
  subst ejk
  show wpAny _ _ ((seqItemAt l j >>= fun r => pure (r.map (j, ·))) >>= _) _ _ s
  refine wb (wb (wpAny_seqItemAt ho rfl (wpAny_pure ?_)))
  rw [hx']
  show wpAny _ _ (setSeqItemAt l j v >>= _) _ _ s
  refine wb (wpAny_setSeqItemAt ho rfl ?_)
  first
   | exact wb (wpAny_pure (wpAny_pure ⟨.none,rfl,wpAny_pure hQ⟩))
   | exact wpAny_pure ⟨.none,rfl,wpAny_pure hQ⟩
 | negSucc j =>
  show wpAny _ _ ((Builtin.List.listItems (.ref l) >>= fun xs => pure ((seqIndex? (Int.negSucc j) xs.size).bind fun j => xs[j]?.map (j, ·))) >>= _) _ _ s
  refine wb (wb ?_)
  unfold Builtin.List.listItems
  refine wb (wpAny_seqItems ho rfl (wpAny_pure (wpAny_pure ?_)))
  rw [hj,Option.bind_some,hx']
  show wpAny _ _ (setSeqItemAt l k v >>= _) _ _ s
  refine wb (wpAny_setSeqItemAt ho rfl ?_)
  first
   | exact wb (wpAny_pure (wpAny_pure ⟨.none,rfl,wpAny_pure hQ⟩))
   | exact wpAny_pure ⟨.none,rfl,wpAny_pure hQ⟩
end
theorem slot_md_get : PySem.Slot "method_descriptor" "__get__" "method_descriptor.__get__" :=
 PySem.Slot.of (owner := "method_descriptor") (n := "__get__") (by rw [typeLookup_type,builtinLookup_eq_fast]; kernel_rfl) (by decide +kernel) (by decide +kernel) (by decide +kernel)
  (by first | exact .inl (by decide +kernel) | exact .inr (by decide +kernel)) (by rw [isSubtype_type]; kernel_rfl)
theorem zgh : entryFor table "method_descriptor.__get__" = some Builtin.«method_descriptor.__get__» := entryFor_of_tree (by kernel_rfl)
theorem zfJ (a b c : Value) : argsOk "method_descriptor.__get__" ⟨[a,b,c],[]⟩ := by unfold argsOk; kernel_rfl
theorem zjk : typeLookup (.type "method_descriptor") "__set__" = pure none := by rw [typeLookup_type,builtinLookup_eq_fast]; kernel_rfl
theorem zf4 : typeLookup (.type "method_descriptor") "__delete__" = pure none := by rw [typeLookup_type,builtinLookup_eq_fast]; kernel_rfl
theorem zgW : builtinKind "list.append" = some .method := by decide +kernel
theorem zeg : isSubtype (.type "list") (.type "module") = pure false := by rw [isSubtype_type]; kernel_rfl
section
variable {prog : Program} {w : World} {A : Around} {E : VP} {s : Shared}
theorem zha {l : Addr} {items : Array Value} {n : Nat} {x : Value} {Q : Unit → Shared → Prop} (hl : s.heap.get? l = some (lobj items n)) (h : Q () s) : wpAny (model prog w) A (checkBoundCall "list.append" ⟨[.ref l,x],[]⟩) Q E s := by
 obtain ⟨hp,g,d,tk,os⟩ := s
 have hT : (⟨hp,g,d,tk,os⟩ : Shared).TypeIs (.ref l) "list" := ⟨_,hl,rfl⟩
 have f1 := zeg
 have f2 := zgW
 unfold checkBoundCall
 repeat (any_goals (first | assumption | wp_step))
theorem ziw {b l : Addr} {items : Array Value} {n : Nat} {x : Value} {R : Result → Shared → Prop} (hb : s.heap.get? b = some (appObj l)) (hl : s.heap.get? l = some (lobj items n))
  (h : codeAny (model prog w) A (.builtin "list.append" ⟨[.ref l,x],[]⟩) R s) : codeAny (model prog w) A (.call (.ref b) ⟨[x],[]⟩) R s := by
 refine codeAny_of_tree ?_
 show wpAny _ _ (callAny (.ref b) _) _ _ _
 unfold callAny
 refine wb (wpAny_load hb ?_)
 refine wb (zha hl ?_)
 exact wpAny_pure ⟨Code.quiet_builtin _ (by decide +kernel),h⟩
theorem zhf {l : Addr} {items : Array Value} {n : Nat} {x : Value} {R : Result → Shared → Prop} (hl : s.heap.get? l = some (lobj items n)) (hsz : items.size ≤ sizeLine)
  (h : R (.ok (.ret .none)) { s with heap := s.heap.update l (Obj.mapSeq fun y => y.push x) }) : codeAny (model prog w) A (.builtin "list.append" ⟨[.ref l,x],[]⟩) R s := by
 refine codeAny_builtin F.entry_list_append ?_
 exact list_append l items n x hsz prog w _ _ s ⟨hl,h⟩
theorem zf6 {b l : Addr} {Q : Keeper → Shared → Prop} (hb : s.heap.get? b = some (appObj l)) (h : Q .machine s) : wpAny (model prog w) A (keeperOf (.ref b)) Q E s := by
 unfold keeperOf
 exact wb (wpAny_load hb (wpAny_pure h))
theorem zeQ {b l : Addr} {pos : Pos} {args : List (Bool × Sem Value)} {Q : VP} (hplain : args.any (·.1) = false)
  (h : wpAny (model prog w) A (evalArgs (.ref b) true args []) (fun a s₁ => s₁.heap.get? b = some (appObj l) ∧ wpAny (model prog w) A (call (.ref b) a.pos a.kw) Q E s₁) E s) :
  wpAny (model prog w) A (callWith pos (.ref b) [] args []) Q E s := by
 unfold callWith
 refine wb (wpAny_holding (wpAny_mono h (fun a s₁ h₁ => wb (wpAny_standAt ?_)) fun _ _ x => x))
 simp only [hplain,List.any_nil,Bool.or_false]
 refine wb (zf6 h₁.1 ?_)
 exact wb (wpAny_mono h₁.2 (fun r s₂ hr => wb (wpAny_holding (wpAny_point (wpAny_pure hr)))) fun _ _ x => x)
theorem sub_list_list : isSubtype (.type "list") (.type "list") = pure true := by rw [isSubtype_type]; kernel_rfl
theorem zf3 (l : Addr) (items : Array Value) (n : Nat) :
  Meets (Builtin.«method_descriptor.__get__» ⟨[.builtin "list.append",.ref l,.type "list"],[]⟩) (fun A R s => s.heap.get? l = some (lobj items n) ∧ R (.ok (.ret (.ref s.heap.objs.size))) { s with heap := s.heap.push (appObj l) }) :=
 Meets.of_wp fun prog w A R s hs => by
  obtain ⟨hp,g,d,tk,os⟩ := s
  obtain ⟨hl,h⟩ := hs
  have hT : (⟨hp,g,d,tk,os⟩ : Shared).TypeIs (.ref l) "list" := ⟨_,hl,rfl⟩
  have f1 := sub_list_list
  have f2 : (Manifest.toldItsClass.contains "list.append") = false := by decide +kernel
  unfold Builtin.«method_descriptor.__get__»
  simp only [f2]
  repeat (any_goals (first | assumption | wp_step))
  rw [show (".".intercalate ("list.append".cutAt '.').dropLast) = "list" by decide +kernel]
  rw [f1]
  refine wpAny_pure ?_
  rw [if_neg (by decide)]
  refine wpAny_pure ?_
  show wpAny _ _ (newFields "builtin_function_or_method" [.builtin "list.append",.ref l] >>= fun v => ret v) _ _ _
  exact wb (wpAny_newObj_type (wpAny_pure ⟨_,rfl,h⟩))
theorem zhe : (["__module__", "__name__", "__qualname__", "__doc__", "__annotations__"] : List Str).contains "append" = false := by decide +kernel
theorem zbX (l : Addr) (items : Array Value) (n : Nat) (u : Tok) :
  Meets (Builtin.«object.__getattribute__» ⟨[.ref l,.str "append" u],[]⟩) (fun A R s => s.heap.get? l = some (lobj items n) ∧ R (.ok (.ret (.ref s.heap.objs.size))) { s with heap := s.heap.push (appObj l) }) :=
 Meets.of_wp fun prog w A R s hs => by
  obtain ⟨hp,g,d,tk,os⟩ := s
  obtain ⟨hl,h⟩ := hs
  have hT : (⟨hp,g,d,tk,os⟩ : Shared).TypeIs (.ref l) "list" := ⟨_,hl,rfl⟩
  have hM : (⟨hp,g,d,tk,os⟩ : Shared).TypeIs (.builtin "list.append") "method_descriptor" := F.type_list_append
  have f1 := F.slot_list_append.lookup
  have f2 := slot_md_get.lookup
  have f3 := zjk
  have f4 := zf4
  have f5 := zhe
  unfold Builtin.«object.__getattribute__»
  repeat (any_goals (first | assumption | ((with_reducible show wpAny _ _ (call (Value.builtin "method_descriptor.__get__") _ _) _ _ _); refine call_meets slot_md_get hM zgh (zfJ _ _ _) (zf3 l items n) ⟨hl, ?_⟩) | wp_step))
  exact wpAny_pure ⟨_,rfl,h⟩
theorem zeM {l : Addr} {items : Array Value} {n : Nat} {Q : VP} (hl : s.heap.get? l = some (lobj items n)) (h : Q (.ref s.heap.objs.size) { s with heap := s.heap.push (appObj l),toks := s.toks + 1 }) :
  wpAny (model prog w) A (getAttr (.ref l) "append" true) Q E s := by
 obtain ⟨hp,g,d,tk,os⟩ := s
 have hT : ∀ tk',(⟨hp,g,d,tk',os⟩ : Shared).TypeIs (.ref l) "list" := fun _ => ⟨_,hl,rfl⟩
 have f3 := F.slot_list_getattribute.lookup
 have f4 := F.slot_list_getattribute.bind (.ref l)
 have f5 := am_list_getattr_none
 unfold getAttr getAttrBy
 repeat (any_goals (first | assumption | exact hT _ | ((with_reducible show wpAny _ _ (call (Value.builtin "list.__getattribute__") _ _) _ _ _); refine call_meets F.slot_list_getattribute (hT _) am_entry_list_getattribute (F.args_list_getattribute_2 _ _) (zbX l items n _) ⟨hl, ?_⟩) | wp_step))
 show wpAny _ _ (handedOut (.ref _)) _ _ _
 exact wpAny_pure h
end
theorem zeA : isSubtype (.type "KeyError") (.type "LookupError") = pure true := by rw [isSubtype_type]; kernel_rfl
section
variable {prog : Program} {w : World} {A : Around} {E : VP} {s : Shared}
theorem ziD {d : Addr} {f : Int → Option Value} {c : Nat} {t : PySem.Str} {u : Tok} {Q : Builtin.Str.Mapped → Shared → Prop} (hm : s.heap.MapOf (intKind prog w) d f) (hv : f (c : Int) = some (.str t u)) (h : ∀ k,Q (.text t) { s with toks := k }) :
  wpAny (model prog w) A (Builtin.Str.tableLookup (.ref d) c) Q E s := by
 unfold Builtin.Str.tableLookup
 refine wb (wpAny_attempt (wb (wpAny_mkInt (wpAny_getItem_of (knd := intKind prog w) (k := (c : Int)) (v := .str t u) (by simp [intKind,Value.isInt]) hm hv ?_))))
 obtain ⟨hh,g,dd,tk,os⟩ := s
 repeat (any_goals (first | assumption | wp_step))
 exact h _
theorem zhO {d : Addr} {f : Int → Option Value} {c : Nat} {Q : Builtin.Str.Mapped → Shared → Prop} (hh : A.handled = none) (hm : s.heap.MapOf (intKind prog w) d f) (hd : (d == sysModules) = false) (hv : f (c : Int) = none)
  (h : ∀ h' k,(∀ b o,s.heap.get? b = some o → h'.get? b = some o) → Q .keep { s with heap := h',toks := k }) :
  wpAny (model prog w) A (Builtin.Str.tableLookup (.ref d) c) Q E s := by
 unfold Builtin.Str.tableLookup
 refine wb (wpAny_attempt (wb (wpAny_mkInt (wpAny_getItem_missing_of (knd := intKind prog w) (k := (c : Int)) (by simp [intKind,Value.isInt]) hd hh hm hv fun h' e ne => ?_))))
 obtain ⟨ob,t,g1,g2,g3⟩ := ne.there
 show wpAny _ _ (do if ← isInstance (.ref e) (.type "LookupError") then rule "str.translate.not-in-table"; pure Builtin.Str.Mapped.keep else throw (.ref e)) _ _ _
 refine wb (wpAny_isInstance (T := "KeyError") (b := true) ⟨ob,g1,g2⟩ zeA ?_)
 rw [if_pos rfl]
 exact wb (wpAny_rule (wpAny_pure (h _ _ ne.keeps)))
set_option maxHeartbeats 2000000 in
theorem ze8 {d : Addr} {f : Int → Option Value} {c x : Nat} {t u : Tok} (hc : c < 128) :
  MeetsIn prog w (Builtin.«str.translate» ⟨[.str ⟨#[c]⟩ t,.ref d],[]⟩) (fun A R s => (s.heap.MapOf (intKind prog w) d f ∧ f (c : Int) = some (.str ⟨#[92,x]⟩ u)) ∧ ∀ k k',R (.ok (.ret (.str ⟨#[92,x]⟩ k))) { s with toks := k' }) :=
 .of_wp fun A R s hs => by
  obtain ⟨hh,g,dd,tk,os⟩ := s
  obtain ⟨⟨hm,hv⟩,h⟩ := hs
  have hc' : decide (c < 128) = true := by simpa using hc
  repeat (any_goals (first | assumption | ((with_reducible show wpAny _ _ (Builtin.Str.tableLookup _ _) _ _ _); refine ziD hm hv fun k => ?_) | wp_step))
  exact ⟨_,rfl,h _ _⟩
set_option maxHeartbeats 2000000 in
theorem zey {d : Addr} {f : Int → Option Value} {c : Nat} {t : Tok} (hc : c < 128) (hd : (d == sysModules) = false) :
  MeetsIn prog w (Builtin.«str.translate» ⟨[.str ⟨#[c]⟩ t,.ref d],[]⟩) (fun A R s => (s.heap.MapOf (intKind prog w) d f ∧ f (c : Int) = none ∧ A.handled = none) ∧ ∀ h' k k',(∀ b o,s.heap.get? b = some o → h'.get? b = some o) → R (.ok (.ret (.str ⟨#[c]⟩ k))) { s with heap := h',toks := k' }) :=
 .of_wp fun A R s hs => by
  obtain ⟨hh,g,dd,tk,os⟩ := s
  obtain ⟨⟨hm,hv,hA⟩,h⟩ := hs
  have hc' : decide (c < 128) = true := by simpa using hc
  repeat (any_goals (first | assumption | ((with_reducible show wpAny _ _ (Builtin.Str.tableLookup _ _) _ _ _); refine zhO hA hm hd hv fun h' k hk => ?_) | wp_step))
  exact ⟨_,rfl,h _ _ _ hk⟩
end
end Mine
end
section MpZ0x
open PySem
namespace Mine
open PySem.Builtin PySem.Builtin.Re
noncomputable def reCode : Array Nat := #[14,14,4,1,1,9,0,64,0,1342177280,0,0,0,0,0,17,0,13,11,9,0,64,0,1342177280,0,0,0,0,0,17,1,1]
theorem zb7 {m : Sre.M} (h : m.outcome.isSome = true) : ∀ n,m.runFor n = m
 | 0 => rfl
 | n + 1 => by unfold Sre.M.runFor; rw [if_pos h]
theorem zeX : ∀ (a b : Nat) (m : Sre.M),m.runFor (a + b) = (m.runFor a).runFor b
 | 0,b,m => by rw [Nat.zero_add]; rfl
 | a + 1,b,m => by
  rw [Nat.succ_add]
  by_cases h : m.outcome.isSome = true
  ·rw [zb7 h,zb7 h,zb7 h]
  ·have e1 : ∀ n,Sre.M.runFor (n + 1) m = Sre.M.runFor n m.step := fun n => by
    conv => lhs; unfold Sre.M.runFor
    rw [if_neg h]
   show Sre.M.runFor (a + b + 1) m = _
   rw [e1,e1]
   exact zeX a b m.step
section
variable {prog : Program} {w : World} {A : Around} {E : VP} {s : Shared}
theorem zhH : ∀ (k t : Nat) (m : Sre.M),(m.runFor (4 * (k + 1))).outcome.isSome = true → k < t → ∀ {Q : Sre.M → Shared → Prop},Q (m.runFor (4 * (k + 1))) s → wpAny (model prog w) A (reDrive t m) Q E s
 | k,0,m,_,h,_,_ => absurd h (Nat.not_lt_zero _)
 | 0,t + 1,m,ho,h,Q,hQ => by
  unfold reDrive
  show wpAny _ _ (if (m.runFor 4).outcome.isSome = true then pure (m.runFor 4) else _) _ _ _
  rw [if_pos ho]
  exact wpAny_pure hQ
 | k + 1,t + 1,m,ho,h,Q,hQ => by
  unfold reDrive
  have e : m.runFor (4 * (k + 1 + 1)) = (m.runFor 4).runFor (4 * (k + 1)) := by
   rw [show 4 * (k + 1 + 1) = 4 + 4 * (k + 1) from Nat.add_comm (4 * (k + 1)) 4]
   exact zeX 4 _ m
  rw [e] at ho hQ
  show wpAny _ _ (if (m.runFor 4).outcome.isSome = true then pure (m.runFor 4) else (do rule "sre.turn"; reDrive t (m.runFor 4))) _ _ _
  by_cases h4 : (m.runFor 4).outcome.isSome = true
  ·rw [if_pos h4]
   rw [zb7 h4] at hQ
   exact wpAny_pure hQ
  ·rw [if_neg h4]
   exact wb (wpAny_rule (zhH k t (m.runFor 4) ho (Nat.lt_of_succ_lt_succ h) hQ))
theorem zgJ (sn : Sre.Seen) : ∀ (l : List Nat) {Q : PUnit → Shared → Prop},Q ⟨⟩ s → wpAny (model prog w) A (forIn l PUnit.unit fun i _ => do
   if sn.has i then
    rule (Sre.names.getD i "")
    pure (ForInStep.yield PUnit.unit)
   else pure (ForInStep.yield PUnit.unit)) Q E s
 | [],Q,h => by rw [List.forIn_nil]; exact wpAny_pure h
 | i :: l,Q,h => by
  rw [List.forIn_cons]
  split
  ·exact wb (wb (wpAny_rule (wpAny_pure (zgJ sn l h))))
  ·exact wb (wpAny_pure (zgJ sn l h))
theorem zim {m : Sre.M} (k : Nat) (hk : k < 100) (h : (m.runFor (4 * (k + 1))).outcome = some .failed) {Q : Option Sre.M → Shared → Prop} (hQ : Q none s) : wpAny (model prog w) A (reRunToEnd m) Q E s := by
 unfold reRunToEnd
 refine wb (zhH k (2 ^ 64) m (by rw [h]; rfl) (Nat.lt_trans hk (by decide)) ?_)
 refine wb (zgJ _ _ ?_)
 rw [h]
 exact wpAny_pure hQ
end
end Mine
end MpZ0x
section MpZ1x
open PySem
namespace Mine
open PySem.Builtin PySem.Builtin.Re
theorem zeI : PlainAttrs "re.Pattern" :=
 ⟨⟨"object.__getattribute__",by rw [typeLookup_type,builtinLookup_eq_fast]; kernel_rfl,by decide +kernel⟩,by rw [typeLookup_type,builtinLookup_eq_fast]; kernel_rfl⟩
theorem zdx : PySem.Slot "re.Pattern" "sub" "re.Pattern.sub" :=
 PySem.Slot.of (owner := "re.Pattern") (n := "sub") (by rw [typeLookup_type,builtinLookup_eq_fast]; kernel_rfl) (by decide +kernel) (by decide +kernel) (by decide +kernel)
  (by first | exact .inl (by decide +kernel) | exact .inr (by decide +kernel)) (by rw [isSubtype_type]; kernel_rfl)
theorem zfL : typeOf (.builtin "re.Pattern.sub") = pure (.type "method_descriptor") := by show builtinType _ = _; rw [builtinType_eq_fast]; kernel_rfl
theorem zfD : entryFor table "re.Pattern.sub" = some Builtin.«re.Pattern.sub» := entryFor_of_tree (by kernel_rfl)
theorem zeN : entryFor table "re.Pattern.sub.loop" = some Builtin.«re.Pattern.sub.loop» := entryFor_of_tree (by kernel_rfl)
theorem zeR (a b c : Value) : argsOk "re.Pattern.sub" ⟨[a,b,c],[]⟩ := by unfold argsOk; kernel_rfl
theorem zcI : plainId "re.Pattern.sub.loop" = true := by decide +kernel
set_option genInjectivity false in
structure PatAt (h : Heap) (P C : Addr) (codes : Array Value) : Prop where
 pat : ∃ x t u v w y,h.get? P = some { cls := .type "re.Pattern",data := .fields #[.str x t,.int 32 u,.int 1 v,.none,.none,.ref C,.int 0 w] } ∧ y = (0 : Nat)
 code : ∃ n,h.get? C = some (tobj codes n)
 is : (codes.map reRawOf).map Int.toNat = reCode
theorem PatAt.keeps {h h' : Heap} {P C : Addr} {codes : Array Value} (x : PatAt h P C codes) (hk : ∀ b o,h.get? b = some o → h'.get? b = some o) : PatAt h' P C codes := by
 obtain ⟨a,t,u,v,w,y,e,r⟩ := x.pat
 obtain ⟨n,e2⟩ := x.code
 exact ⟨⟨a,t,u,v,w,y,hk _ _ e,r⟩,⟨n,hk _ _ e2⟩,x.is⟩
section
variable {prog : Program} {w : World} {A : Around} {E : VP} {s : Shared} {P C : Addr} {codes : Array Value} {a : Array Nat} {u : Tok}
theorem zhg (hp : PatAt s.heap P C codes) {Q : ReTarget → Shared → Prop} (hQ : Q { pattern := .ref P,string := .str ⟨a⟩ u,code := reCode,text := a,kind := 0,groups := 1,pos := 0,lim := a.size } s) :
  wpAny (model prog w) A (reWholeTarget (.ref P) (.str ⟨a⟩ u)) Q E s := by
 obtain ⟨hh,g,d,tk,os⟩ := s
 obtain ⟨x,t,u',v,w',_,e,_⟩ := hp.pat
 obtain ⟨n,ec⟩ := hp.code
 unfold reWholeTarget
 refine wb (wpAny_fieldsOf e rfl ?_)
 have ht : ∀ {Q : Array Nat × Nat → Shared → Prop},Q (a,0) ⟨hh,g,d,tk,os⟩ → wpAny (model prog w) A (reTextOf (.str ⟨a⟩ u)) Q E ⟨hh,g,d,tk,os⟩ := by
  intro Q h
  unfold reTextOf
  repeat (any_goals (first | assumption | wp_step))
 refine wb (ht ?_)
 have hr : ∀ {Q : Array Int → Shared → Prop},Q (codes.map reRawOf) ⟨hh,g,d,tk,os⟩ → wpAny (model prog w) A (reRawItems (.ref C)) Q E ⟨hh,g,d,tk,os⟩ := by
  intro Q h
  unfold reRawItems
  exact wb (wpAny_seqItems ec rfl (wpAny_pure h))
 dsimp only
 unfold reNoCollectionInside
 repeat (any_goals (first | assumption | ((with_reducible show wpAny _ _ (reRawItems _) _ _ _); refine hr ?_) | wp_step))
 have := hp.is
 rw [show (codes.map reRawOf).map (fun x => x.toNat) = reCode from this]
 exact hQ
end
end Mine
end MpZ1x
section
open PySem
namespace Mine
inductive D where
 | none
 | bool (b : Bool)
 | int (i : Int)
 | str (l : List Nat)
 | list (l : List D)
 | tup (l : List D)
 | tok (k : Nat)
 | ty (n : String)
 deriving Inhabited
abbrev CfT := Nat → List D → Option D
inductive R where
 | val (d : D)
 | own (l : List D)
 | bor (l : List D)
noncomputable def R.ds : R → D
 | .val d => d
 | .own l => .list l
 | .bor l => .list l
noncomputable def R.fz : R → Option D
 | .val d => some d
 | .own l => some (.list l)
 | .bor _ => none
inductive Slot where
 | unset
 | val (d : D)
 | own (l : List D)
 | app (j : Nat)
 | fdic (l : List D)
set_option genCtorIdx false in
inductive Op where
 | add | sub | mul | fdiv | mod | pow | neg
 | eq | ne | lt | le | gt | ge | is_ | isnot | in_ | notin
 | index | slice | slice3 | len | abs | sum
 | tyOf | isInst | isSub
 | rfind | find4 | startswith | endswith | rstrip | lstrip | replace | join | split | translate | resub | count | strIndex | resub0
 | listOf | tupleOf | sorted | min | max | fmt | lindex
 | other (n : Nat)
set_option genCtorIdx false in
set_option genInjectivity false in
inductive X where
 | const (d : D)
 | var (i : Nat)
 | op (o : Op) (a : X)
 | nil
 | cons (a r : X)
 | star (a : X)
 | and (a b : X)
 | or (a b : X)
 | not (a : X)
 | ite (c t e : X)
 | call (f : Nat) (a : X)
 | tup (a : X)
 | list (a : X)
 | comp (i : Nat) (it cond elt : X)
 | comp2 (i j : Nat) (it cond elt : X)
 | comp3 (i : Nat) (it : X) (j : Nat) (jt elt : X)
 | mapF (f : Nat) (a : X)
 | seqI (a : X)
 | rangeI (a : X)
 | enumI (a : X)
 | setI (i : Nat) (it elt : X)
 | dNot (i : Nat) (a : X)
 | dGet (i : Nat) (a : X)
 | dKeys (i : Nat)
inductive Out where
 | next
 | brk
 | cont
 | ret (d : D)
set_option genCtorIdx false in
set_option genInjectivity false in
inductive S where
 | skip
 | seq (a b : S)
 | fz (i : Nat)
 | assign (i : Nat) (x : X)
 | assignO (i : Nat) (x : X)
 | assign2 (i j : Nat) (x : X)
 | assign3 (i j k : Nat) (x : X)
 | assign1 (i : Nat) (x : X)
 | alias (i j : Nat)
 | append (i : Nat) (x : X)
 | appendVia (i j : Nat) (x : X)
 | aug (i : Nat) (x : X)
 | extend (i : Nat) (x : X)
 | pop (i : Nat)
 | setItem (i : Nat) (k x : X)
 | augItem (i : Nat) (k x : X)
 | delItem (i : Nat) (k : X)
 | ite (c : X) (a b : S)
 | while (c : X) (b : S)
 | forE (i : Nat) (it : X) (b : S)
 | forE2 (i j : Nat) (it : X) (b : S)
 | forN (is : List Nat) (it : X) (b : S)
 | ret (x : X)
 | brk
 | cont
 | assert (c : X)
 | try_ (b : S)
 | sem (f : (Nat → List D → Option D) → List Slot → Option (List Slot × Out))
 | dNew (i : Nat)
 | dSet (i : Nat) (k x : X)
 | dFz (i : Nat)
noncomputable def lim : Nat := 1000000
noncomputable def tokC : Nat → List Nat
 | 0 => [42]
 | _ => [63]
mutual
noncomputable def D.toPy : D → PyData
 | .none => .none
 | .bool b => .bool b
 | .int i => .int i
 | .str l => .str ⟨l.toArray⟩
 | .list l => .list (D.toPys l)
 | .tup l => .tuple (D.toPys l)
 | .tok k => .list [.str ⟨(tokC k).toArray⟩]
 | .ty _ => .none
noncomputable def D.toPys : List D → List PyData
 | [] => []
 | d :: r => d.toPy :: D.toPys r
end
mutual
noncomputable def D.ok : Nat → D → Bool
 | 0,_ => false
 | n + 1,.list l => D.oks n l
 | n + 1,.tup l => D.oks n l
 | _ + 1,.ty _ => false
 | n + 1,.tok k => decide (0 < n) && decide (k < 2)
 | _ + 1,_ => true
noncomputable def D.oks : Nat → List D → Bool
 | _,[] => true
 | n,d :: r => d.ok n && D.oks n r
end
noncomputable def D.truth : D → Option Bool
 | .none => some false
 | .bool b => some b
 | .int i => some (decide (i ≠ 0))
 | .str l => some (!l.isEmpty)
 | .list l => some (!l.isEmpty)
 | .tup l => some (!l.isEmpty)
 | _ => Option.none
noncomputable def eqD : D → D → Option Bool
 | .str a,.str b => some (decide (a = b))
 | .int a,.int b => some (decide (a = b))
 | a,b => if a.ok 9 && b.ok 9 then some (PyData.eqv a.toPy b.toPy) else none
noncomputable def inD (d : D) : D → Option Bool
 | .list l => if D.oks 8 l && d.ok 9 then some ((D.toPys l).any fun y => PyData.eqv y d.toPy) else none
 | .tup l => if D.oks 8 l && d.ok 9 then some ((D.toPys l).any fun y => PyData.eqv y d.toPy) else none
 | .str b => match d with
  | .str a => some (Txt.contains ⟨b.toArray⟩ ⟨a.toArray⟩)
  | _ => none
 | _ => none
noncomputable def noneB : D → Option Bool
 | .ty _ => none
 | .none => some true
 | _ => some false
noncomputable def isD (a : D) : D → Option Bool
 | .none => noneB a
 | .tok j => (match a with
  | .tok i => if i < 2 ∧ j < 2 then some (decide (i = j)) else none
  | .str _ => some false
  | .none => some false
  | _ => none)
 | .str _ => (match a with
  | .tok _ => some false
  | _ => none)
 | _ => none
noncomputable def ltL (a b : List Nat) : Bool := decide (a < b)
noncomputable def place (i : Int) (n : Nat) : Option Nat :=
 if 0 ≤ i then (if i < n then some i.toNat else none) else (if 0 ≤ i + n then some (i + n).toNat else none)
noncomputable def small (i : Int) : Bool := decide (-1000000000 ≤ i) && decide (i ≤ 1000000000)
noncomputable def clip (i : Int) (n : Nat) : Nat := if i < 0 then (i + n).toNat else if i < n then i.toNat else n
noncomputable def bound (d : D) (dflt n : Nat) : Option Nat := match d with
 | .none => some dflt
 | .int i => if small i then some (clip i n) else none
 | _ => none
noncomputable def cut {α : Type} (l : List α) (lo hi : Nat) : List α := (l.drop lo).take (hi - lo)
noncomputable def pick {α : Type} (l : List α) (lo hi st : Option Int) : List α :=
 (sliceRange (sliceBounds lo hi st l.length).1 (sliceBounds lo hi st l.length).2.1 (sliceBounds lo hi st l.length).2.2).filterMap (l[·]?)
noncomputable def partD : D → Option (Option Int)
 | .none => some none
 | .int i => if small i then some (some i) else none
 | _ => none
noncomputable def toInts : List D → Option (List Int)
 | [] => some []
 | .int i :: r => (toInts r).map (i :: ·)
 | _ :: _ => none
noncomputable def toStrs : List D → Option (List (List Nat))
 | [] => some []
 | .str s :: r => (toStrs r).map (s :: ·)
 | _ :: _ => none
noncomputable def strD (l : List Nat) : Option R := if l.length ≤ lim then some (.val (.str l)) else none
noncomputable def intD : D → Option Int
 | .int i => some i
 | _ => none
noncomputable def strO : D → Option (List Nat)
 | .str l => some l
 | _ => none
noncomputable def lstO : D → Option (List D)
 | .list l => some l
 | _ => none
noncomputable def two (f : D → D → Option R) : List D → Option R
 | [a,b] => f a b
 | _ => none
noncomputable def int2 (f : Int → Int → Option R) : List D → Option R := two fun a b => (intD a).bind fun a => (intD b).bind fun b => f a b
noncomputable def addD (a b : D) : Option R := match a with
 | .int a => (intD b).bind fun b => some (.val (.int (a + b)))
 | .str a => (strO b).bind fun b => if a.length + b.length ≤ lim then some (.val (.str (a ++ b))) else none
 | .list a => (lstO b).bind fun b => if a.length + b.length ≤ lim then some (.own (a ++ b)) else none
 | _ => none
noncomputable def opAdd : List D → Option R := two addD
noncomputable def opSub : List D → Option R := int2 fun a b => some (.val (.int (a - b)))
noncomputable def rep {α : Type} (l : List α) (n : Int) : List α := (List.replicate n.toNat l).flatten
noncomputable def mulBy (b : Int) : D → Option R
 | .int a => if small a || small b then some (.val (.int (a * b))) else none
 | .str a => if small b && decide (a.length * b.toNat ≤ lim) then some (.val (.str (rep a b))) else none
 | .list a => if small b && decide (a.length * b.toNat ≤ lim) then some (.own (rep a b)) else none
 | _ => none
noncomputable def opMul : List D → Option R := two fun a b => (intD b).bind fun b => mulBy b a
noncomputable def opDiv : List D → Option R := int2 fun a b => if b = 0 then none else some (.val (.int (Int.fdiv a b)))
noncomputable def opMod : List D → Option R := int2 fun a b => if b = 0 then none else some (.val (.int (Int.fmod a b)))
noncomputable def opBool (f : D → D → Option Bool) : List D → Option R
 | [a,b] => (f a b).map fun x => .val (.bool x)
 | _ => none
noncomputable def cmpD (f : Int → Int → Bool) (g : List Nat → List Nat → Bool) (a b : D) : Option R := match a with
 | .int a => (intD b).bind fun b => some (.val (.bool (f a b)))
 | .str a => (strO b).bind fun b => some (.val (.bool (g a b)))
 | _ => none
noncomputable def opCmp (f : Int → Int → Bool) (g : List Nat → List Nat → Bool) : List D → Option R := two (cmpD f g)
noncomputable def str3 (f : List Nat → List Nat → List Nat → Option R) : List D → Option R
 | [a,b,c] => (strO a).bind fun a => (strO b).bind fun b => (strO c).bind fun c => f a b c
 | _ => none
noncomputable def idxD (i : Int) : D → Option R
 | .str l => (match place i l.length with | some k => (l[k]?).map fun c => .val (.str [c]) | none => none)
 | .list l => (match place i l.length with | some k => (l[k]?).map .val | none => none)
 | .tup l => (match place i l.length with | some k => (l[k]?).map .val | none => none)
 | _ => none
noncomputable def opIndex : List D → Option R := two fun a b => (intD b).bind fun i => if small i then idxD i a else none
noncomputable def opSlice : List D → Option R
 | [.str l,a,b] => match bound a 0 l.length,bound b l.length l.length with
  | some lo,some hi => some (.val (.str (cut l lo hi)))
  | _,_ => none
 | [.list l,a,b] => match bound a 0 l.length,bound b l.length l.length with
  | some lo,some hi => some (.own (cut l lo hi))
  | _,_ => none
 | _ => none
noncomputable def opSlice3 : List D → Option R
 | [.list l,a,b,.int n] => match partD a,partD b with
  | some lo,some hi => if n ≠ 0 ∧ small n then some (.own (pick l lo hi (some n))) else none
  | _,_ => none
 | _ => none
noncomputable def opLen : List D → Option R
 | [.str l] => some (.val (.int l.length))
 | [.list l] => some (.val (.int l.length))
 | [.tup l] => some (.val (.int l.length))
 | _ => none
noncomputable def opAbs : List D → Option R
 | [.int i] => some (.val (.int i.natAbs))
 | _ => none
noncomputable def opSum : List D → Option R
 | [.list l] => (toInts l).map fun is => .val (.int is.sum)
 | _ => none
noncomputable def opNeg : List D → Option R
 | [.int i] => some (.val (.int (-i)))
 | _ => none
noncomputable def tyD : D → Option String
 | .str _ => some "str"
 | .int _ => some "int"
 | .bool _ => some "bool"
 | .list _ => some "list"
 | .tup _ => some "tuple"
 | _ => none
noncomputable def opTyOf : List D → Option R
 | [d] => (tyD d).map fun n => .val (.ty n)
 | _ => none
noncomputable def tyL : List D → Option (List String)
 | [] => some []
 | .ty a :: r => (tyL r).map (a :: ·)
 | _ :: _ => none
noncomputable def strB : D → Option Bool
 | .str _ => some true
 | .list _ => some false
 | _ => none
noncomputable def opIsInst : List D → Option R
 | [a,.ty n] => if strB a = some true then (if n = "str" then some (.val (.bool true)) else if n = "bytes" then some (.val (.bool false)) else none) else none
 | [a,.tup l] => if tyL l = some ["list", "tuple"] then (strB a).map fun b => .val (.bool (!b)) else none
 | _ => none
noncomputable def opIsSub : List D → Option R
 | [.ty n,.tup l] => if n = "str" ∧ tyL l = some ["str", "bytes"] then some (.val (.bool true)) else none
 | _ => none
noncomputable def opStr2 (f : PySem.Str → PySem.Str → R) : List D → Option R := two fun a b => (strO a).bind fun a => (strO b).bind fun b => some (f ⟨a.toArray⟩ ⟨b.toArray⟩)
noncomputable def opFind4 : List D → Option R
 | [.str a,.str b,.int i,.int j] => if small i ∧ small j then
   some (.val (.int (match Builtin.Str.occurrences ⟨a.toArray⟩ ⟨b.toArray⟩ (fromIndex a.length i) (min (fromIndex a.length j) a.length) 1 with | k :: _ => (k : Int) | [] => -1))) else none
 | _ => none
noncomputable def opReplace : List D → Option R := str3 fun a b _ => if (Builtin.Str.occurrences ⟨a.toArray⟩ ⟨b.toArray⟩ 0 a.length (a.length + 1)).isEmpty then some (.val (.str a)) else none
noncomputable def joinL (s : List Nat) : List (List Nat) → List Nat
 | [] => []
 | [a] => a
 | a :: r => a ++ s ++ joinL s r
noncomputable def opJoin : List D → Option R
 | [.str s,.list l] => match toStrs l with
  | some ls => if (joinL s ls).length ≤ lim then some (.val (.str (joinL s ls))) else none
  | none => none
 | _ => none
noncomputable def opSplit : List D → Option R
 | [.str a,.str b] => if b.length = 1 ∧ a.length + 2 ≤ lim then some (.own ((Txt.split ⟨a.toArray⟩ ⟨b.toArray⟩).map fun x => .str x.cps.toList)) else none
 | _ => none
noncomputable def special : List Nat := [40,41,91,93,123,125,63,42,43,45,124,94,36,92,46,38,126,35,32,9,10,13,11,12]
noncomputable def opTranslate : List D → Option R
 | [.str [c]] => if c < 128 then some (.val (.str (if special.contains c then [92,c] else [c]))) else none
 | _ => none
noncomputable def noHit : List (List Nat) := [[],[33],[46,45,97],[33,97],[97,45,99],[93],[33,33],[97,47,98],[97,45,98],[91],[42],[63],[97],[98],[97,98],[33,97,98],[33,98],[33,97,45,98],[46],[33,46]]
noncomputable def opResub : List D → Option R
 | [.str a] => if noHit.contains a then some (.val (.str a)) else if a = [124,38,126] then some (.val (.str [92,124,92,38,92,126])) else none
 | _ => none
noncomputable def opResub0 : List D → Option R
 | [.str a] => if noHit.contains a then some (.val (.str a)) else none
 | _ => none
noncomputable def opListOf : List D → Option R
 | [.list l] => some (.own l)
 | _ => none
noncomputable def opTupleOf : List D → Option R
 | [.list l] => some (.val (.tup l))
 | _ => none
noncomputable def ltSs : List (List Nat) → List (List Nat) → Bool
 | [],[] => false
 | [],_ :: _ => true
 | _ :: _,[] => false
 | a :: as,b :: bs => if a = b then ltSs as bs else ltL a b
noncomputable def insS (x : List Nat) : List (List Nat) → List (List Nat)
 | [] => [x]
 | y :: r => if ltL y x then y :: insS x r else x :: y :: r
noncomputable def sortS : List (List Nat) → List (List Nat)
 | [] => []
 | x :: r => insS x (sortS r)
noncomputable def opSorted : List D → Option R
 | [.list l] => match toStrs l with
  | some ls => if ls.length < 64 then some (.own ((sortS ls).map .str)) else none
  | none => none
 | _ => none
noncomputable def ltD : D → D → Option Bool
 | .str a,.str b => some (ltL a b)
 | .list a,.list b => match toStrs a,toStrs b with
  | some x,some y => some (ltSs x y)
  | _,_ => none
 | _,_ => none
noncomputable def gtD (a b : D) : Option Bool := ltD b a
noncomputable def bestGo (better : D → D → Option Bool) : D → List D → Option D
 | b,[] => some b
 | b,d :: r => match better d b with
  | some true => bestGo better d r
  | some false => bestGo better b r
  | none => none
noncomputable def opBest (better : D → D → Option Bool) : List D → Option R
 | [.list (d :: r)] => (bestGo better d r).map .val
 | [.tup (d :: r)] => (bestGo better d r).map .val
 | _ => none
noncomputable def opMax : List D → Option R
 | [.int a,.int b] => some (.val (.int (if b > a then b else a)))
 | ds => opBest gtD ds
noncomputable def opPow : List D → Option R := int2 fun a b => if 0 ≤ b ∧ b ≤ 64 ∧ 0 ≤ a ∧ a ≤ 16 then some (.val (.int (a ^ b.toNat))) else none
noncomputable def opLIndex : List D → Option R
 | [.list l,.str s] => match toStrs l with
  | some ls => if ls.contains s then some (.val (.int (ls.idxOf s))) else none
  | none => none
 | _ => none
noncomputable def opCount : List D → Option R
 | [.list l,.str s] => match toStrs l with
  | some ls => some (.val (.int (ls.count s)))
  | none => none
 | _ => none
noncomputable def opSIndex : List D → Option R
 | [.str a,.str b] => match Builtin.Str.occurrences ⟨a.toArray⟩ ⟨b.toArray⟩ 0 a.length 1 with
  | i :: _ => some (.val (.int (i : Nat)))
  | [] => none
 | _ => none
noncomputable def opFmt : List D → Option R := str3 fun a b c => strD (a ++ b ++ c)
noncomputable def opF : Op → List D → Option R
 | .add,ds => opAdd ds
 | .sub,ds => opSub ds
 | .mul,ds => opMul ds
 | .fdiv,ds => opDiv ds
 | .mod,ds => opMod ds
 | .neg,ds => opNeg ds
 | .eq,ds => opBool eqD ds
 | .ne,ds => opBool (fun a b => (eqD a b).map (!·)) ds
 | .lt,ds => opCmp (fun a b => decide (a < b)) ltL ds
 | .le,ds => opCmp (fun a b => decide (a ≤ b)) (fun a b => !ltL b a) ds
 | .gt,ds => opCmp (fun a b => decide (b < a)) (fun a b => ltL b a) ds
 | .ge,ds => opCmp (fun a b => decide (b ≤ a)) (fun a b => !ltL a b) ds
 | .is_,ds => opBool isD ds
 | .isnot,ds => opBool (fun a b => (isD a b).map (!·)) ds
 | .in_,ds => opBool inD ds
 | .notin,ds => opBool (fun a b => (inD a b).map (!·)) ds
 | .index,ds => opIndex ds
 | .slice,ds => opSlice ds
 | .slice3,ds => opSlice3 ds
 | .len,ds => opLen ds
 | .abs,ds => opAbs ds
 | .sum,ds => opSum ds
 | .tyOf,ds => opTyOf ds
 | .isInst,ds => opIsInst ds
 | .isSub,ds => opIsSub ds
 | .rfind,ds => opStr2 (fun a b => .val (.int (Txt.rfind a b))) ds
 | .find4,ds => opFind4 ds
 | .startswith,ds => opStr2 (fun a b => .val (.bool (Txt.startswith a b))) ds
 | .endswith,ds => opStr2 (fun a b => .val (.bool (Txt.endswith a b))) ds
 | .rstrip,ds => opStr2 (fun a b => .val (.str (Txt.rstripChars a b).cps.toList)) ds
 | .lstrip,ds => opStr2 (fun a b => .val (.str (Txt.lstripChars a b).cps.toList)) ds
 | .replace,ds => opReplace ds
 | .join,ds => opJoin ds
 | .split,ds => opSplit ds
 | .translate,ds => opTranslate ds
 | .resub,ds => opResub ds
 | .resub0,ds => opResub0 ds
 | .listOf,ds => opListOf ds
 | .tupleOf,ds => opTupleOf ds
 | .sorted,ds => opSorted ds
 | .fmt,ds => opFmt ds
 | .min,ds => opBest ltD ds
 | .max,ds => opMax ds
 | .pow,ds => opPow ds
 | .lindex,ds => opLIndex ds
 | .count,ds => opCount ds
 | .strIndex,ds => opSIndex ds
 | _,_ => none
noncomputable def fzAll : List R → Option (List D)
 | [] => some []
 | r :: rs => match r.fz,fzAll rs with
  | some d,some ds => some (d :: ds)
  | _,_ => none
noncomputable def truthR : Option (List R) → Option Bool
 | some [r] => r.ds.truth
 | _ => none
noncomputable def compGo (f : D → Option (Option D)) : List D → Option (List D)
 | [] => some []
 | d :: r => match f d with
  | none => none
  | some none => compGo f r
  | some (some y) => match compGo f r with
   | some ys => some (y :: ys)
   | none => none
noncomputable def flatGo (f : D → Option (List D)) : List D → Option (List D)
 | [] => some []
 | d :: r => match f d with
  | some a => (flatGo f r).map (a ++ ·)
  | none => none
noncomputable def dSlot (i : Nat) : Bool := i == 5
noncomputable def dictGet : List D → List Nat → Option D
 | [],_ => none
 | .tup [.str k,v] :: r,q => if k = q then some v else dictGet r q
 | _ :: _,_ => none
noncomputable def keyD : D → D
 | .tup [k,_] => k
 | d => d
noncomputable def itsR : Option (List R) → Option (List D)
 | some [.val (.list l)] => some l
 | _ => none
noncomputable def ownS : Slot → Option (List D)
 | .own l => some l
 | _ => none
noncomputable def fzS : Slot → Option (List D)
 | .fdic l => some l
 | _ => none
noncomputable def dicOwn (ρ : List Slot) (i : Nat) : Option (List D) := if dSlot i then (ρ[i]?).bind ownS else none
noncomputable def dicFz (ρ : List Slot) (i : Nat) : Option (List D) := (ρ[i]?).bind fzS
noncomputable def dicAt (ρ : List Slot) (i : Nat) : Option (List D) := (dicOwn ρ i).or (dicFz ρ i)
noncomputable def strV : Option (List R) → Option (List Nat)
 | some [.val (.str k)] => some k
 | _ => none
noncomputable def keyO : Option D → Option (List Nat)
 | some (.str k) => some k
 | _ => none
noncomputable def turnD (c e : Option (List R)) : Option (Option D) := match truthR c with
 | some true => (match e with
  | some [r] => r.fz.map some
  | _ => none)
 | some false => some none
 | none => none
noncomputable def upTo (n : Nat) (a b : Int) : List Int := (List.range n).map fun (k : Nat) => a + b * (k : Int)
noncomputable def rangeL (a b : Int) : List D := (upTo (b - a).toNat a 1).map .int
noncomputable def rangeDown (a b : Int) : List D := (upTo (a - b).toNat a (-1)).map .int
noncomputable def opRange : List D → Option (List D)
 | [.int n] => if small n && decide (n ≤ 1000000) then some (rangeL 0 n) else none
 | [.int a,.int n] => if small a && small n && decide (n - a ≤ 1000000) then some (rangeL a n) else none
 | [.int a,.int n,.int s] => if s = -1 ∧ small a ∧ small n ∧ a - n ≤ 1000000 then some (rangeDown a n) else none
 | _ => none
noncomputable def itemsOf : D → Option (List D)
 | .list l => some l
 | .tup l => some l
 | .str l => some (l.map fun c => .str [c])
 | _ => none
noncomputable def enumOf : D → Option (List D)
 | .list l => some l
 | .str l => some (l.map fun c => .str [c])
 | _ => none
noncomputable def enumL (k : Int) : List D → List D
 | [] => []
 | d :: r => .tup [.int k,d] :: enumL (k + 1) r
noncomputable def allSome {α : Type} : List (Option α) → Option (List α)
 | [] => some []
 | some a :: r => (allSome r).map (a :: ·)
 | none :: _ => none
section
variable (cf : CfT)
noncomputable def ev : X → List Slot → Option (List R)
 | .const d,_ => some [.val d]
 | .var i,ρ => match ρ[i]? with
  | some (.val d) => some [.val d]
  | some (.own l) => if dSlot i then none else some [.bor l]
  | _ => none
 | .op o a,ρ => match ev a ρ with
  | some rs => (opF o (rs.map R.ds)).map fun r => [r]
  | none => none
 | .nil,_ => some []
 | .cons a r,ρ => match ev a ρ with
  | some [x] => (ev r ρ).map fun xs => x :: xs
  | _ => none
 | .star a,ρ => match ev a ρ with
  | some [x] => (match x.fz with
   | some (.list l) => some (l.map .val)
   | some (.tup l) => some (l.map .val)
   | _ => none)
  | _ => none
 | .and a b,ρ => match ev a ρ with
  | some [x] => (match x.ds.truth with
   | some true => ev b ρ
   | some false => some [x]
   | none => none)
  | _ => none
 | .or a b,ρ => match ev a ρ with
  | some [x] => (match x.ds.truth with
   | some false => ev b ρ
   | some true => some [x]
   | none => none)
  | _ => none
 | .not a,ρ => match ev a ρ with
  | some [x] => x.ds.truth.map fun b => [.val (.bool (!b))]
  | _ => none
 | .ite c t e,ρ => match truthR (ev c ρ) with
  | some true => ev t ρ
  | some false => ev e ρ
  | none => none
 | .call f a,ρ => match ev a ρ with
  | some rs => (match fzAll rs with
   | some ds => (cf f ds).map fun d => [.val d]
   | none => none)
  | none => none
 | .tup a,ρ => match ev a ρ with
  | some rs => (match fzAll rs with
   | some ds => if ds.length ≤ lim then some [.val (.tup ds)] else none
   | none => none)
  | none => none
 | .list a,ρ => match ev a ρ with
  | some rs => (match fzAll rs with
   | some ds => if ds.length ≤ lim then some [.own ds] else none
   | none => none)
  | none => none
 | .comp i it c e,ρ => match ev it ρ with
  | some [.val (.list items)] => (compGo (fun d => turnD (ev c (ρ.set i (.val d))) (ev e (ρ.set i (.val d)))) items).map fun l => [.own l]
  | _ => none
 | .comp2 i j it c e,ρ => match ev it ρ with
  | some [.val (.list items)] => (compGo (fun d => match d with
    | .tup [a,b] => turnD (ev c ((ρ.set i (.val a)).set j (.val b))) (ev e ((ρ.set i (.val a)).set j (.val b)))
    | _ => none) items).map fun l => [.own l]
  | _ => none
 | .comp3 i it j jt e,ρ => match itsR (ev it ρ) with
  | some items => (match flatGo (fun d => match itsR (ev jt (ρ.set i (.val d))) with
    | some its => compGo (fun d' => turnD (some [.val (.bool true)]) (ev e ((ρ.set i (.val d)).set j (.val d')))) its
    | none => none) items with
   | some l => if l.length ≤ lim then some [.own l] else none
   | none => none)
  | none => none
 | .mapF f a,ρ => match ev a ρ with
  | some [x] => (match x.ds with
   | .list items => (allSome (items.map fun d => cf f [d])).map fun l => [.val (.tup l)]
   | .tup items => (allSome (items.map fun d => cf f [d])).map fun l => [.val (.tup l)]
   | _ => none)
  | _ => none
 | .dNot i a,ρ => match dicAt ρ i,strV (ev a ρ) with
  | some l,some k => some [.val (.bool (dictGet l k).isNone)]
  | _,_ => none
 | .dGet i a,ρ => match dicAt ρ i,strV (ev a ρ) with
  | some l,some k => (dictGet l k).map fun d => [.val d]
  | _,_ => none
 | .dKeys i,ρ => match dicFz ρ i with
  | some l => some [.val (.list (l.map keyD))]
  | none => none
 | .seqI a,ρ => match ev a ρ with
  | some [x] => (match x.fz with
   | some d => (itemsOf d).map fun l => [.val (.list l)]
   | none => none)
  | _ => none
 | .rangeI a,ρ => match ev a ρ with
  | some rs => (opRange (rs.map R.ds)).map fun l => [.val (.list l)]
  | none => none
 | .enumI a,ρ => match ev a ρ with
  | some [x] => (match x.fz with
   | some d => (enumOf d).map fun l => [.val (.list (enumL 0 l))]
   | none => none)
  | _ => none
 | .setI i it e,ρ => match ev it ρ with
  | some [.val (.list items)] => (match compGo (fun d => turnD (some [.val (.bool true)]) (ev e (ρ.set i (.val d)))) items with
   | some (.bool b :: r) => if r.all (fun d => match d with | .bool b' => b' == b | _ => false) then some [.val (.bool b)] else none
   | _ => none)
  | _ => none
noncomputable def ev1 (x : X) (ρ : List Slot) : Option D := match ev cf x ρ with
 | some [r] => r.fz
 | _ => none
noncomputable def evT (x : X) (ρ : List Slot) : Option Bool := truthR (ev cf x ρ)
noncomputable def evI (x : X) (ρ : List Slot) : Option (List D) := match ev cf x ρ with
 | some [.val (.list l)] => some l
 | _ => none
noncomputable def whileGo (c : List Slot → Option Bool) (b : List Slot → Option (List Slot × Out)) : Nat → List Slot → Option (List Slot × Out)
 | 0,_ => none
 | n + 1,ρ => match c ρ with
  | none => none
  | some false => some (ρ,.next)
  | some true => match b ρ with
   | none => none
   | some (ρ',.next) => whileGo c b n ρ'
   | some (ρ',.cont) => whileGo c b n ρ'
   | some (ρ',.brk) => some (ρ',.next)
   | some (ρ',.ret d) => some (ρ',.ret d)
noncomputable def forGo (st : D → List Slot → Option (List Slot)) (b : List Slot → Option (List Slot × Out)) : List D → List Slot → Option (List Slot × Out)
 | [],ρ => some (ρ,.next)
 | d :: r,ρ => match st d ρ with
  | none => none
  | some ρ₁ => match b ρ₁ with
   | none => none
   | some (ρ',.next) => forGo st b r ρ'
   | some (ρ',.cont) => forGo st b r ρ'
   | some (ρ',.brk) => some (ρ',.next)
   | some (ρ',.ret d) => some (ρ',.ret d)
noncomputable def put1 (i : Nat) (d : D) (ρ : List Slot) : Option (List Slot) := some (ρ.set i (.val d))
noncomputable def put2 (i j : Nat) (d : D) (ρ : List Slot) : Option (List Slot) := match d with
 | .tup [a,b] => some ((ρ.set i (.val a)).set j (.val b))
 | _ => none
noncomputable def setAll : List Slot → List Nat → List D → List Slot
 | ρ,i :: is,d :: ds => setAll (ρ.set i (.val d)) is ds
 | ρ,_,_ => ρ
noncomputable def putN (is : List Nat) (d : D) (ρ : List Slot) : Option (List Slot) := match d with
 | .tup l => if l.length = is.length then some (setAll ρ is l) else none
 | _ => none
noncomputable def ownAt (ρ : List Slot) (i : Nat) : Option (List D) := match ρ[i]? with
 | some (.own l) => if dSlot i then none else some l
 | _ => none
noncomputable def noApp (i : Nat) (ρ : List Slot) : Bool := ρ.all fun s => match s with | .app j => j != i | _ => true
noncomputable def wf : Nat := 100000
noncomputable def ex : S → List Slot → Option (List Slot × Out)
 | .skip,ρ => some (ρ,.next)
 | .seq a b,ρ => match ex a ρ with
  | some (ρ',.next) => ex b ρ'
  | some (ρ',o) => some (ρ',o)
  | none => none
 | .fz i,ρ => match ownAt ρ i with
  | some l => some (ρ.set i (.val (.list l)),.next)
  | none => some (ρ,.next)
 | .assign i x,ρ => (ev1 cf x ρ).map fun d => (ρ.set i (.val d),.next)
 | .assignO i x,ρ => if noApp i ρ then (match ev cf x ρ with
  | some [.own l] => if dSlot i then none else some (ρ.set i (.own l),.next)
  | some [.val d] => some (ρ.set i (.val d),.next)
  | _ => none) else none
 | .assign1 i x,ρ => match ev1 cf x ρ with
  | some d => some (ρ.set i (.val d),.next)
  | none => none
 | .assign2 i j x,ρ => match ev1 cf x ρ with
  | some (.tup [a,b]) => some ((ρ.set i (.val a)).set j (.val b),.next)
  | _ => none
 | .assign3 i j k x,ρ => match ev1 cf x ρ with
  | some (.tup [a,b,c]) => some (((ρ.set i (.val a)).set j (.val b)).set k (.val c),.next)
  | _ => none
 | .alias i j,ρ => match ownAt ρ j with
  | some _ => some (ρ.set i (.app j),.next)
  | none => none
 | .append i x,ρ => match ev1 cf x ρ,ownAt ρ i with
  | some d,some l => if l.length < lim then some (ρ.set i (.own (l ++ [d])),.next) else none
  | _,_ => none
 | .appendVia i j x,ρ => match ρ[i]? with
  | some (.app j') => if j' = j then (match ev1 cf x ρ,ownAt ρ j with
   | some d,some l => if l.length < lim then some (ρ.set j (.own (l ++ [d])),.next) else none
   | _,_ => none) else none
  | _ => none
 | .aug i x,ρ => match ρ[i]?,ev1 cf x ρ with
  | some (.val (.str a)),some (.str b) => if a.length + b.length ≤ lim then some (ρ.set i (.val (.str (a ++ b))),.next) else none
  | _,_ => none
 | .extend i x,ρ => match ev1 cf x ρ,ownAt ρ i with
  | some (.list m),some l => if l.length + m.length ≤ lim then some (ρ.set i (.own (l ++ m)),.next) else none
  | _,_ => none
 | .pop i,ρ => match ownAt ρ i with
  | some l => (match l.getLast? with
   | some (.str _) => some (ρ.set i (.own l.dropLast),.next)
   | _ => none)
  | none => none
 | .setItem i k x,ρ => match ev1 cf x ρ,ev1 cf k ρ,ownAt ρ i with
  | some d,some (.int n),some l => if small n then (match place n l.length with
   | some p => some (ρ.set i (.own (l.set p d)),.next)
   | none => none) else none
  | _,_,_ => none
 | .augItem i k x,ρ => match ev1 cf k ρ,ev1 cf x ρ,ownAt ρ i with
  | some (.int n),some (.str y),some l => if small n then (match place n l.length with
   | some p => (match l[p]? with
    | some (.str z) => if z.length + y.length ≤ lim then some (ρ.set i (.own (l.set p (.str (z ++ y)))),.next) else none
    | _ => none)
   | none => none) else none
  | _,_,_ => none
 | .delItem i k,ρ => match ev1 cf k ρ,ownAt ρ i with
  | some (.int n),some l => if 0 ≤ n ∧ n < l.length then some (ρ.set i (.own (l.eraseIdx n.toNat)),.next) else none
  | _,_ => none
 | .ite c a b,ρ => match evT cf c ρ with
  | some true => ex a ρ
  | some false => ex b ρ
  | none => none
 | .while c b,ρ => whileGo (evT cf c) (ex b) wf ρ
 | .forE i it b,ρ => match evI cf it ρ with
  | some items => forGo (put1 i) (ex b) items ρ
  | none => none
 | .forE2 i j it b,ρ => match evI cf it ρ with
  | some items => forGo (put2 i j) (ex b) items ρ
  | none => none
 | .forN is it b,ρ => match evI cf it ρ with
  | some items => forGo (putN is) (ex b) items ρ
  | none => none
 | .ret x,ρ => (ev1 cf x ρ).map fun d => (ρ,.ret d)
 | .brk,ρ => some (ρ,.brk)
 | .cont,ρ => some (ρ,.cont)
 | .assert c,ρ => match evT cf c ρ with
  | some true => some (ρ,.next)
  | _ => none
 | .try_ b,ρ => ex b ρ
 | .sem f,ρ => f cf ρ
 | .dNew i,ρ => if dSlot i && noApp i ρ then some (ρ.set i (.own []),.next) else none
 | .dSet i k x,ρ => match dicOwn ρ i,keyO (ev1 cf k ρ),ev1 cf x ρ with
  | some l,some q,some d => if (dictGet l q).isNone ∧ l.length < lim then some (ρ.set i (.own (l ++ [.tup [.str q,d]])),.next) else none
  | _,_,_ => none
 | .dFz i,ρ => match dicOwn ρ i with
  | some l => some (ρ.set i (.fdic l),.next)
  | none => none
theorem zaF {ρ : List Slot} {d} : ev cf (.const d) ρ = (some [.val d]) := rfl
theorem zbu {ρ : List Slot} {i} : ev cf (.var i) ρ = (match ρ[i]? with
  | some (.val d) => some [.val d]
  | some (.own l) => if dSlot i then none else some [.bor l]
  | _ => none) := rfl
theorem zcp {ρ : List Slot} {o a} : ev cf (.op o a) ρ = (match ev cf a ρ with
  | some rs => (opF o (rs.map R.ds)).map fun r => [r]
  | none => none) := rfl
theorem zbZ {ρ : List Slot} : ev cf .nil ρ = (some []) := rfl
theorem zaX {ρ : List Slot} {a r} : ev cf (.cons a r) ρ = (match ev cf a ρ with
  | some [x] => (ev cf r ρ).map fun xs => x :: xs
  | _ => none) := rfl
theorem zbk {ρ : List Slot} {a} : ev cf (.star a) ρ = (match ev cf a ρ with
  | some [x] => (match x.fz with
   | some (.list l) => some (l.map .val)
   | some (.tup l) => some (l.map .val)
   | _ => none)
  | _ => none) := rfl
theorem zbf {ρ : List Slot} {a b} : ev cf (.and a b) ρ = (match ev cf a ρ with
  | some [x] => (match x.ds.truth with
   | some true => ev cf b ρ
   | some false => some [x]
   | none => none)
  | _ => none) := rfl
theorem zcf {ρ : List Slot} {a b} : ev cf (.or a b) ρ = (match ev cf a ρ with
  | some [x] => (match x.ds.truth with
   | some false => ev cf b ρ
   | some true => some [x]
   | none => none)
  | _ => none) := rfl
theorem zbE {ρ : List Slot} {a} : ev cf (.not a) ρ = (match ev cf a ρ with
  | some [x] => x.ds.truth.map fun b => [.val (.bool (!b))]
  | _ => none) := rfl
theorem zbv {ρ : List Slot} {c t e} : ev cf (.ite c t e) ρ = (match truthR (ev cf c ρ) with
  | some true => ev cf t ρ
  | some false => ev cf e ρ
  | none => none) := rfl
theorem za8 {ρ : List Slot} {f a} : ev cf (.call f a) ρ = (match ev cf a ρ with
  | some rs => (match fzAll rs with
   | some ds => (cf f ds).map fun d => [.val d]
   | none => none)
  | none => none) := rfl
theorem zbY {ρ : List Slot} {a} : ev cf (.tup a) ρ = (match ev cf a ρ with
  | some rs => (match fzAll rs with
   | some ds => if ds.length ≤ lim then some [.val (.tup ds)] else none
   | none => none)
  | none => none) := rfl
theorem zbz {ρ : List Slot} {a} : ev cf (.list a) ρ = (match ev cf a ρ with
  | some rs => (match fzAll rs with
   | some ds => if ds.length ≤ lim then some [.own ds] else none
   | none => none)
  | none => none) := rfl
theorem zbp {ρ : List Slot} {i it c e} : ev cf (.comp i it c e) ρ = (match ev cf it ρ with
  | some [.val (.list items)] => (compGo (fun d => turnD (ev cf c (ρ.set i (.val d))) (ev cf e (ρ.set i (.val d)))) items).map fun l => [.own l]
  | _ => none) := rfl
theorem za1 {ρ : List Slot} {i j it c e} : ev cf (.comp2 i j it c e) ρ = (match ev cf it ρ with
  | some [.val (.list items)] => (compGo (fun d => match d with
    | .tup [a,b] => turnD (ev cf c ((ρ.set i (.val a)).set j (.val b))) (ev cf e ((ρ.set i (.val a)).set j (.val b)))
    | _ => none) items).map fun l => [.own l]
  | _ => none) := rfl
theorem zbo {ρ : List Slot} {i it j jt e} : ev cf (.comp3 i it j jt e) ρ = (match itsR (ev cf it ρ) with
  | some items => (match flatGo (fun d => match itsR (ev cf jt (ρ.set i (.val d))) with
    | some its => compGo (fun d' => turnD (some [.val (.bool true)]) (ev cf e ((ρ.set i (.val d)).set j (.val d')))) its
    | none => none) items with
   | some l => if l.length ≤ lim then some [.own l] else none
   | none => none)
  | none => none) := rfl
theorem zbn {ρ : List Slot} {f a} : ev cf (.mapF f a) ρ = (match ev cf a ρ with
  | some [x] => (match x.ds with
   | .list items => (allSome (items.map fun d => cf f [d])).map fun l => [.val (.tup l)]
   | .tup items => (allSome (items.map fun d => cf f [d])).map fun l => [.val (.tup l)]
   | _ => none)
  | _ => none) := rfl
theorem zbm {ρ : List Slot} {a} : ev cf (.seqI a) ρ = (match ev cf a ρ with
  | some [x] => (match x.fz with
   | some d => (itemsOf d).map fun l => [.val (.list l)]
   | none => none)
  | _ => none) := rfl
theorem zaJ {ρ : List Slot} {a} : ev cf (.rangeI a) ρ = (match ev cf a ρ with
  | some rs => (opRange (rs.map R.ds)).map fun l => [.val (.list l)]
  | none => none) := rfl
theorem zbb {ρ : List Slot} {a} : ev cf (.enumI a) ρ = (match ev cf a ρ with
  | some [x] => (match x.fz with
   | some d => (enumOf d).map fun l => [.val (.list (enumL 0 l))]
   | none => none)
  | _ => none) := rfl
theorem zbl {ρ : List Slot} {i it e} : ev cf (.setI i it e) ρ = (match ev cf it ρ with
  | some [.val (.list items)] => (match compGo (fun d => turnD (some [.val (.bool true)]) (ev cf e (ρ.set i (.val d)))) items with
   | some (.bool b :: r) => if r.all (fun d => match d with | .bool b' => b' == b | _ => false) then some [.val (.bool b)] else none
   | _ => none)
  | _ => none) := rfl
theorem zhD {ρ : List Slot} : ex cf .skip ρ = (some (ρ,.next)) := rfl
theorem zg5 {ρ : List Slot} {a b} : ex cf (.seq a b) ρ = (match ex cf a ρ with
  | some (ρ',.next) => ex cf b ρ'
  | some (ρ',o) => some (ρ',o)
  | none => none) := rfl
theorem exq_fz {ρ : List Slot} {i} : ex cf (.fz i) ρ = (match ownAt ρ i with
  | some l => some (ρ.set i (.val (.list l)),.next)
  | none => some (ρ,.next)) := rfl
theorem zcD {ρ : List Slot} {i x} : ex cf (.assign i x) ρ = ((ev1 cf x ρ).map fun d => (ρ.set i (.val d),.next)) := rfl
theorem zcU {ρ : List Slot} {i x} : ex cf (.assignO i x) ρ = (if noApp i ρ then (match ev cf x ρ with
  | some [.own l] => if dSlot i then none else some (ρ.set i (.own l),.next)
  | some [.val d] => some (ρ.set i (.val d),.next)
  | _ => none) else none) := rfl
theorem zcV {ρ : List Slot} {i j x} : ex cf (.assign2 i j x) ρ = (match ev1 cf x ρ with
  | some (.tup [a,b]) => some ((ρ.set i (.val a)).set j (.val b),.next)
  | _ => none) := rfl
theorem zg8 {ρ : List Slot} {i j k x} : ex cf (.assign3 i j k x) ρ = (match ev1 cf x ρ with
  | some (.tup [a,b,c]) => some (((ρ.set i (.val a)).set j (.val b)).set k (.val c),.next)
  | _ => none) := rfl
theorem zjU {ρ : List Slot} {i j} : ex cf (.alias i j) ρ = (match ownAt ρ j with
  | some _ => some (ρ.set i (.app j),.next)
  | none => none) := rfl
theorem ze2 {ρ : List Slot} {i x} : ex cf (.append i x) ρ = (match ev1 cf x ρ,ownAt ρ i with
  | some d,some l => if l.length < lim then some (ρ.set i (.own (l ++ [d])),.next) else none
  | _,_ => none) := rfl
theorem zfB {ρ : List Slot} {i j x} : ex cf (.appendVia i j x) ρ = (match ρ[i]? with
  | some (.app j') => if j' = j then (match ev1 cf x ρ,ownAt ρ j with
   | some d,some l => if l.length < lim then some (ρ.set j (.own (l ++ [d])),.next) else none
   | _,_ => none) else none
  | _ => none) := rfl
theorem zjT {ρ : List Slot} {i x} : ex cf (.aug i x) ρ = (match ρ[i]?,ev1 cf x ρ with
  | some (.val (.str a)),some (.str b) => if a.length + b.length ≤ lim then some (ρ.set i (.val (.str (a ++ b))),.next) else none
  | _,_ => none) := rfl
theorem exq_pop {ρ : List Slot} {i} : ex cf (.pop i) ρ = (match ownAt ρ i with
  | some l => (match l.getLast? with
   | some (.str _) => some (ρ.set i (.own l.dropLast),.next)
   | _ => none)
  | none => none) := rfl
theorem zg4 {ρ : List Slot} {i k x} : ex cf (.setItem i k x) ρ = (match ev1 cf x ρ,ev1 cf k ρ,ownAt ρ i with
  | some d,some (.int n),some l => if small n then (match place n l.length with
   | some p => some (ρ.set i (.own (l.set p d)),.next)
   | none => none) else none
  | _,_,_ => none) := rfl
theorem zg7 {ρ : List Slot} {i k} : ex cf (.delItem i k) ρ = (match ev1 cf k ρ,ownAt ρ i with
  | some (.int n),some l => if 0 ≤ n ∧ n < l.length then some (ρ.set i (.own (l.eraseIdx n.toNat)),.next) else none
  | _,_ => none) := rfl
theorem zjR {ρ : List Slot} {c a b} : ex cf (.ite c a b) ρ = (match evT cf c ρ with
  | some true => ex cf a ρ
  | some false => ex cf b ρ
  | none => none) := rfl
theorem zge {ρ : List Slot} {c b} : ex cf (.while c b) ρ = (whileGo (evT cf c) (ex cf b) wf ρ) := rfl
theorem zhE {ρ : List Slot} {i it b} : ex cf (.forE i it b) ρ = (match evI cf it ρ with
  | some items => forGo (put1 i) (ex cf b) items ρ
  | none => none) := rfl
theorem zeo {ρ : List Slot} {i j it b} : ex cf (.forE2 i j it b) ρ = (match evI cf it ρ with
  | some items => forGo (put2 i j) (ex cf b) items ρ
  | none => none) := rfl
theorem zg6 {ρ : List Slot} {x} : ex cf (.ret x) ρ = ((ev1 cf x ρ).map fun d => (ρ,.ret d)) := rfl
theorem zjS {ρ : List Slot} : ex cf .brk ρ = (some (ρ,.brk)) := rfl
theorem zk7 {ρ : List Slot} : ex cf .cont ρ = (some (ρ,.cont)) := rfl
theorem zil {ρ : List Slot} {c} : ex cf (.assert c) ρ = (match evT cf c ρ with
  | some true => some (ρ,.next)
  | _ => none) := rfl
theorem zhC {ρ : List Slot} {b} : ex cf (.try_ b) ρ = (ex cf b ρ) := rfl
theorem zjQ {ρ : List Slot} {f} : ex cf (.sem f) ρ = f cf ρ := rfl
end
set_option genInjectivity false in
structure Fn where
 np : Nat
 va : Bool
 ns : Nat
 body : S
noncomputable def bindD (f : Fn) (args : List D) : Option (List Slot) :=
 if f.va then (if f.np ≤ args.length ∧ args.length ≤ lim then some (((args.take f.np).map .val ++ [.val (.tup (args.drop f.np))]) ++ List.replicate (f.ns - f.np - 1) .unset) else none)
 else if args.length = f.np then some (args.map .val ++ List.replicate (f.ns - f.np) .unset) else none
noncomputable def callF (fns : Nat → Option Fn) : Nat → Nat → List D → Option D
 | 0,_,_ => none
 | n + 1,f,args => match fns f with
  | none => none
  | some fn => match bindD fn args with
   | none => none
   | some ρ => match ex (callF fns n) fn.body ρ with
    | some (_,.ret d) => some d
    | some (_,.next) => some .none
    | _ => none
end Mine
end
section
open PySem PySem.Calls PyProof.Rows
namespace Mine
set_option genInjectivity false in
structure Cx where
 prog : Program
 w : World
 h0 : Heap
 X : Addr → Prop
 XI : Heap → Prop
 T : Nat → Addr
 mg : Str → Option Value
 mb : Str → Option Value
 fa : Nat → Addr
section
variable (T : NAd) (F : AP) (h : Heap)
mutual
inductive Rep : Value → D → Prop
 | none : Rep .none .none
 | bool (b : Bool) : Rep (.bool b) (.bool b)
 | int (i : Int) (t : Tok) : Rep (.int i t) (.int i)
 | str {l : List Nat} (t : Tok) : (∀ c ∈ l,c < 0x110000) → l.length ≤ lim → Rep (.str ⟨l.toArray⟩ t) (.str l)
 | ty (n : String) : Rep (.type n) (.ty n)
 | list {a : Addr} {vs : List Value} {n : Nat} {ds : List D} : F a → h.get? a = some (lobj vs.toArray n) → vs.length ≤ lim → RepL vs ds → Rep (.ref a) (.list ds)
 | tup {a : Addr} {vs : List Value} {n : Nat} {ds : List D} : F a → h.get? a = some (tobj vs.toArray n) → vs.length ≤ lim → RepL vs ds → Rep (.ref a) (.tup ds)
 | tok {k : Nat} : (k < 2 → F (T k) ∧ ∃ n t,h.get? (T k) = some (lobj #[.str ⟨(tokC k).toArray⟩ t] n)) → Rep (.ref (T k)) (.tok k)
inductive RepL : List Value → List D → Prop
 | nil : RepL [] []
 | cons {v : Value} {vs : List Value} {d : D} {ds : List D} : Rep v d → RepL vs ds → RepL (v :: vs) (d :: ds)
end
end
section
variable {T : NAd} {F F' : AP} {h h' : Heap}
theorem Rep.mono (hF : ∀ a,F a → F' a) (hk : ∀ a o,F a → h.get? a = some o → h'.get? a = some o) {v : Value} {d : D} (r : Rep T F h v d) : Rep T F' h' v d :=
 Rep.rec (motive_1 := fun v d _ => Rep T F' h' v d) (motive_2 := fun vs ds _ => RepL T F' h' vs ds) .none .bool .int (fun t q z => .str t q z) .ty (fun f g z _ i => .list (hF _ f) (hk _ _ f g) z i) (fun f g z _ i => .tup (hF _ f) (hk _ _ f g) z i) (fun f => .tok fun h2 => let ⟨f,n,t,g⟩ := f h2; ⟨hF _ f,n,t,hk _ _ f g⟩) .nil (fun _ _ a b => .cons a b) r
theorem RepL.mono (hF : ∀ a,F a → F' a) (hk : ∀ a o,F a → h.get? a = some o → h'.get? a = some o) {vs : List Value} {ds : List D} (r : RepL T F h vs ds) : RepL T F' h' vs ds :=
 RepL.rec (motive_1 := fun v d _ => Rep T F' h' v d) (motive_2 := fun vs ds _ => RepL T F' h' vs ds) .none .bool .int (fun t q z => .str t q z) .ty (fun f g z _ i => .list (hF _ f) (hk _ _ f g) z i) (fun f g z _ i => .tup (hF _ f) (hk _ _ f g) z i) (fun f => .tok fun h2 => let ⟨f,n,t,g⟩ := f h2; ⟨hF _ f,n,t,hk _ _ f g⟩) .nil (fun _ _ a b => .cons a b) r
theorem RepL.ind {motive : List Value → List D → Prop} (hn : motive [] []) (hc : ∀ {v vs d ds},Rep T F h v d → RepL T F h vs ds → motive vs ds → motive (v :: vs) (d :: ds)) {vs : List Value} {ds : List D} (q : RepL T F h vs ds) : motive vs ds :=
 RepL.rec (motive_1 := fun _ _ _ => True) (motive_2 := fun vs ds _ => motive vs ds) trivial (fun _ => trivial) (fun _ _ => trivial) (fun _ _ _ => trivial) (fun _ => trivial) (fun _ _ _ _ _ => trivial) (fun _ _ _ _ _ => trivial) (fun _ => trivial) hn (fun a r _ i => hc a r i) q
theorem RepL.length {vs : List Value} {ds : List D} (q : RepL T F h vs ds) : vs.length = ds.length :=
 q.ind (motive := fun vs ds => vs.length = ds.length) rfl fun _ _ i => congrArg Nat.succ i
theorem RepL.append {vs ws : List Value} {ds es : List D} (q : RepL T F h vs ds) (k : RepL T F h ws es) : RepL T F h (vs ++ ws) (ds ++ es) :=
 q.ind (motive := fun vs ds => RepL T F h (vs ++ ws) (ds ++ es)) k fun a _ i => .cons a i
theorem RepL.get {vs : List Value} {ds : List D} (q : RepL T F h vs ds) : ∀ {k : Nat} {d : D},ds[k]? = some d → ∃ v,vs[k]? = some v ∧ Rep T F h v d :=
 q.ind (motive := fun vs ds => ∀ {k : Nat} {d : D},ds[k]? = some d → ∃ v,vs[k]? = some v ∧ Rep T F h v d) (fun e => nomatch e) fun a _ i => by
  intro k d e
  cases k with
  | zero => (injection e with e; subst e); exact ⟨_,rfl,a⟩
  | succ k => exact i (k := k) e
theorem RepL.getV {vs : List Value} {ds : List D} (r : RepL T F h vs ds) {k : Nat} {v : Value} (e : vs[k]? = some v) : ∃ d,ds[k]? = some d ∧ Rep T F h v d := by
 have hk : k < vs.length := by
  rcases Nat.lt_or_ge k vs.length with q | q
  ·exact q
  ·rw [List.getElem?_eq_none q] at e; injection e
 have hk' : k < ds.length := r.length ▸ hk
 obtain ⟨v',e',rv⟩ := r.get (List.getElem?_eq_getElem hk')
 rw [e] at e'; (injection e' with e'; subst e')
 exact ⟨_,List.getElem?_eq_getElem hk',rv⟩
theorem RepL.take {vs : List Value} {ds : List D} (n : Nat) (q : RepL T F h vs ds) : RepL T F h (vs.take n) (ds.take n) :=
 q.ind (motive := fun vs ds => ∀ n,RepL T F h (vs.take n) (ds.take n)) (fun n => by cases n <;> exact .nil) (fun a _ i n => by cases n with | zero => exact .nil | succ n => exact .cons a (i n)) n
theorem RepL.set {vs : List Value} {ds : List D} (n : Nat) {v : Value} {d : D} (q : RepL T F h vs ds) (k : Rep T F h v d) : RepL T F h (vs.set n v) (ds.set n d) :=
 q.ind (motive := fun vs ds => ∀ n,RepL T F h (vs.set n v) (ds.set n d)) (fun _ => .nil) (fun a r i n => by cases n with | zero => exact .cons k r | succ n => exact .cons a (i n)) n
theorem RepL.eraseIdx {vs : List Value} {ds : List D} (n : Nat) (q : RepL T F h vs ds) : RepL T F h (vs.eraseIdx n) (ds.eraseIdx n) :=
 q.ind (motive := fun vs ds => ∀ n,RepL T F h (vs.eraseIdx n) (ds.eraseIdx n)) (fun _ => .nil) (fun a r i n => by cases n with | zero => exact r | succ n => exact .cons a (i n)) n
theorem RepL.dropLast {vs : List Value} {ds : List D} (r : RepL T F h vs ds) : RepL T F h vs.dropLast ds.dropLast := by
 rw [List.dropLast_eq_take,List.dropLast_eq_take,r.length]; exact r.take _
theorem RepL.reverse {vs : List Value} {ds : List D} (q : RepL T F h vs ds) : RepL T F h vs.reverse ds.reverse :=
 q.ind (motive := fun vs ds => RepL T F h vs.reverse ds.reverse) .nil fun a _ i => by rw [List.reverse_cons,List.reverse_cons]; exact i.append (.cons a .nil)
theorem RepL.pickAt (is : List Nat) {vs : List Value} {ds : List D} (r : RepL T F h vs ds) : RepL T F h (is.filterMap (vs[·]?)) (is.filterMap (ds[·]?)) := by
 induction is with
 | nil => exact .nil
 | cons k is ih =>
  rcases Nat.lt_or_ge k ds.length with q | q
  ·obtain ⟨v,e,rv⟩ := r.get (List.getElem?_eq_getElem q)
   rw [List.filterMap_cons_some e,List.filterMap_cons_some (List.getElem?_eq_getElem q)]
   exact .cons rv ih
  ·rw [List.filterMap_cons_none (by simpa using r.length ▸ q),List.filterMap_cons_none (by simpa using q)]
   exact ih
theorem RepL.rep (n : Nat) {vs : List Value} {ds : List D} (r : RepL T F h vs ds) : RepL T F h (List.replicate n vs).flatten (List.replicate n ds).flatten := by
 induction n with
 | zero => simp; exact .nil
 | succ n ih => simp only [List.replicate_succ,List.flatten_cons]; exact r.append ih
theorem Rep.reads {v : Value} {d : D} {n : Nat} (r : Rep T F h v d) (q : d.ok n = true) : ∃ as,Reads h v d.toPy as := by
 have nx : ∀ {d : D} {n : Nat},d.ok n = true → ∃ k,n = k + 1 := fun {d n} q => by
  cases n with
  | zero => unfold D.ok at q; injection q
  | succ k => exact ⟨k,rfl⟩
 refine Rep.rec (motive_1 := fun v d _ => ∀ n,d.ok n = true → ∃ as,Reads h v d.toPy as) (motive_2 := fun vs ds _ => ∀ n,D.oks n ds = true → ∃ as,ReadsAll h vs (D.toPys ds) as) (fun _ _ => ⟨[],.none⟩) (fun b _ _ => ⟨[],.bool b⟩) (fun i t _ _ => ⟨[],.int i t⟩) (fun t _ _ _ _ => ⟨[],.str _ t⟩) (fun m n q => ?_) (fun f g _ _ ih n q => ?_) (fun f g _ _ ih n q => ?_) (fun f n q => ?_) (fun _ _ => ⟨[],.nil⟩) (fun _ _ i1 i2 n q => ?_) r n q
 ·obtain ⟨k,rfl⟩ := nx q; injection q
 ·obtain ⟨k,rfl⟩ := nx q
  obtain ⟨as,x⟩ := ih k q
  exact ⟨_,Reads.list g rfl rfl (by rw [List.toList_toArray]; exact x)⟩
 ·obtain ⟨k,rfl⟩ := nx q
  obtain ⟨as,x⟩ := ih k q
  exact ⟨_,Reads.tuple g rfl rfl (by rw [List.toList_toArray]; exact x)⟩
 ·obtain ⟨j,rfl⟩ := nx q
  obtain ⟨_,_,t,g⟩ := f (of_decide_eq_true (Bool.and_eq_true_iff.mp q).2)
  exact ⟨_,Reads.list g rfl rfl (.cons (.str _ t) .nil)⟩
 ·have q' := Bool.and_eq_true_iff.mp q
  obtain ⟨as,x⟩ := i1 n q'.1
  obtain ⟨bs,y⟩ := i2 n q'.2
  exact ⟨as ++ bs,.cons x y⟩
theorem RepL.reads {vs : List Value} {ds : List D} {n : Nat} (r : RepL T F h vs ds) (q : D.oks n ds = true) : ∃ as,ReadsAll h vs (D.toPys ds) as :=
 r.ind (motive := fun vs ds => D.oks n ds = true → ∃ as,ReadsAll h vs (D.toPys ds) as) (fun _ => ⟨[],.nil⟩) (fun a _ i q => by
  have q' := Bool.and_eq_true_iff.mp q
  obtain ⟨as,x⟩ := a.reads q'.1
  obtain ⟨bs,y⟩ := i q'.2
  exact ⟨as ++ bs,.cons x y⟩) q
end
section
variable {T : NAd} {F F' : AP} {h h' : Heap}
theorem zhk {l : List Nat} (q : ∀ c ∈ l,c < 0x110000) : PyData.strOk ⟨l.toArray⟩ = true := by
 unfold PyData.strOk
 simpa [List.all_eq_true] using q
theorem Rep.lay {v : Value} {d : D} {n : Nat} (r : Rep T F h v d) (q : d.ok n = true) : d.toPy.canLay0 = true ∧ d.toPy.depth ≤ n := by
 have nx : ∀ {d : D} {n : Nat},d.ok n = true → ∃ k,n = k + 1 := fun {d n} q => by
  cases n with
  | zero => unfold D.ok at q; injection q
  | succ k => exact ⟨k,rfl⟩
 refine Rep.rec (motive_1 := fun v d _ => ∀ n,d.ok n = true → d.toPy.canLay0 = true ∧ d.toPy.depth ≤ n) (motive_2 := fun vs ds _ => ∀ n,D.oks n ds = true → PyData.canLayAll0 (D.toPys ds) = true ∧ PyData.depthAll (D.toPys ds) ≤ n) (fun _ _ => ⟨rfl,Nat.zero_le _⟩) (fun _ _ _ => ⟨rfl,Nat.zero_le _⟩) (fun _ _ _ _ => ⟨rfl,Nat.zero_le _⟩) (fun t p _ _ _ => ⟨zhk p,Nat.zero_le _⟩) (fun m n q => ?_) (fun f g _ _ ih n q => ?_) (fun f g _ _ ih n q => ?_) (fun {k} f n q => ?_) (fun _ _ => ⟨rfl,Nat.zero_le _⟩) (fun _ _ i1 i2 n q => ?_) r n q
 ·obtain ⟨k,rfl⟩ := nx q; injection q
 ·obtain ⟨k,rfl⟩ := nx q
  have := ih k q
  simp only [D.toPy,PyData.canLay0,PyData.depth]
  exact ⟨this.1,by omega⟩
 ·obtain ⟨k,rfl⟩ := nx q
  have := ih k q
  simp only [D.toPy,PyData.canLay0,PyData.depth]
  exact ⟨this.1,by omega⟩
 ·obtain ⟨j,rfl⟩ := nx q
  have e : PyData.strOk ⟨(tokC k).toArray⟩ = true := zhk (by cases k <;> simp [tokC])
  have hj : 0 < j := of_decide_eq_true (Bool.and_eq_true_iff.mp q).1
  simp only [D.toPy,PyData.canLay0,PyData.canLayAll0,PyData.depth,PyData.depthAll,e,Bool.and_self,true_and]; omega
 ·have q' := Bool.and_eq_true_iff.mp q
  have x := i1 n q'.1
  have y := i2 n q'.2
  simp only [D.toPys,PyData.canLayAll0,PyData.depthAll,x.1,y.1]
  exact ⟨rfl,by omega⟩
theorem RepL.lay {vs : List Value} {ds : List D} {n : Nat} (r : RepL T F h vs ds) (q : D.oks n ds = true) : PyData.canLayAll0 (D.toPys ds) = true ∧ PyData.depthAll (D.toPys ds) ≤ n :=
 r.ind (motive := fun vs ds => D.oks n ds = true → PyData.canLayAll0 (D.toPys ds) = true ∧ PyData.depthAll (D.toPys ds) ≤ n) (fun _ => ⟨rfl,Nat.zero_le _⟩) (fun a _ i q => by
  have q' := Bool.and_eq_true_iff.mp q
  have x := a.lay q'.1
  have y := i q'.2
  simp only [D.toPys,PyData.canLayAll0,PyData.depthAll,x.1,y.1]
  exact ⟨rfl,Nat.max_le.mpr ⟨x.2,y.2⟩⟩) q
theorem Rep.shaped {v : Value} {d : D} {n : Nat} (r : Rep T F h v d) (q : d.ok n = true) (hn : n ≤ 60) : PySem.SeqAt.shaped d.toPy = true := by
 have l := r.lay q
 unfold PySem.SeqAt.shaped
 rw [l.1,Bool.true_and]; exact decide_eq_true (by omega)
end
noncomputable def GensBare (a : Array GenState) : Prop := ∀ g ∈ a,g.bare = true
set_option genInjectivity false in
structure XCx extends Cx where
 XF : (Addr → Prop) → Heap → Prop
 cok : (Nat → List D → Option D) → Prop := fun _ => True
set_option genInjectivity false in
structure Wd (cx : XCx) (F : AP) (s : Shared) : Prop where
 base : ∀ a o,cx.h0.get? a = some o → ¬ cx.X a → s.heap.get? a = some o
 xi : cx.XF F s.heap
 gens : GensBare s.gens
 f0 : ∀ a o,cx.h0.get? a = some o → ¬ cx.X a → F a
 lt : ∀ a,F a → ∃ o,s.heap.get? a = some o
 nx : ∀ a,F a → ¬ cx.X a
 xex : ∀ a,cx.X a → ∃ o,s.heap.get? a = some o
set_option genInjectivity false in
structure CxOk (cx : XCx) : Prop where
 xi : ∀ F F' h h',cx.XF F h → (∀ a,F a → F' a) → (∀ a o,F a ∨ cx.X a → h.get? a = some o → h'.get? a = some o) → cx.XF F' h'
 glob : cx.h0.Ns mainGlobals cx.mg
 gx : ¬ cx.X mainGlobals
 blt : cx.h0.Ns builtinsNs cx.mb
 bx : ¬ cx.X builtinsNs
 bmb : ∀ x : Str,x ≠ "__name__" → cx.mb x = bootBuiltins x
 lim : cx.h0.NoLimit
 limx : ¬ cx.X cStatics
 seer : ∀ h : Heap,(∀ a o,cx.h0.get? a = some o → ¬ cx.X a → h.get? a = some o) → h.NoSeer
 tree : cx.prog.given.tree = none
 nb : ∃ mc,cx.h0.Ns cStatics mc ∧ mc sharingNotToldKey = none
 tinj : ∀ i j,cx.T i = cx.T j → i = j
set_option genInjectivity false in
structure Step (cx : XCx) (F : AP) (s : Shared) (F' : AP) (s' : Shared) : Prop where
 sub : ∀ a,F a → F' a
 new : ∀ a,F' a → F a ∨ s.heap.get? a = none
 keep : ∀ a o,s.heap.get? a = some o → ¬ cx.X a → s'.heap.get? a = some o
 os : s'.os = s.os
 wd : Wd cx F' s'
theorem zaz (h : Heap) : h.get? h.objs.size = none := by
 cases e : h.get? h.objs.size with
 | none => rfl
 | some o => exact absurd (Heap.lt_size e) (Nat.lt_irrefl _)
section
variable {cx : XCx} {F F' F'' : AP} {s s' s'' : Shared}
theorem Step.refl (w : Wd cx F s) : Step cx F s F s := ⟨fun _ h => h,fun _ h => .inl h,fun _ _ e _ => e,rfl,w⟩
theorem Step.fresh (x : Step cx F s F' s') {a : Addr} (nx : ¬ cx.X a) (h : s'.heap.get? a = none) : s.heap.get? a = none := by
 cases e : s.heap.get? a with
 | none => rfl
 | some o => rw [x.keep a o e nx] at h; injection h
theorem Step.trans (x : Step cx F s F' s') (y : Step cx F' s' F'' s'') : Step cx F s F'' s'' :=
 ⟨fun a h => y.sub a (x.sub a h),fun a h => by
  rcases y.new a h with q | q
  ·exact x.new a q
  ·exact .inr (x.fresh (y.wd.nx a h) q),fun a o e nx => y.keep a o (x.keep a o e nx) nx,y.os.trans x.os,y.wd⟩
theorem Wd.toks (w : Wd cx F s) (k : Nat) : Wd cx F { s with toks := k } := ⟨w.base,w.xi,w.gens,w.f0,w.lt,w.nx,w.xex⟩
theorem Step.toks (x : Step cx F s F' s') (k : Nat) : Step cx F s F' { s' with toks := k } := ⟨x.sub,x.new,x.keep,x.os,x.wd.toks k⟩
theorem Step.rep (x : Step cx F s F' s') (w : Wd cx F s) {v : Value} {d : D} (r : Rep cx.T F s.heap v d) : Rep cx.T F' s'.heap v d := r.mono x.sub fun a o f e => x.keep a o e (w.nx a f)
theorem Step.repL (x : Step cx F s F' s') (w : Wd cx F s) {v : List Value} {d : List D} (r : RepL cx.T F s.heap v d) : RepL cx.T F' s'.heap v d := r.mono x.sub fun a o f e => x.keep a o e (w.nx a f)
theorem Step.grown (ok : CxOk cx) (w : Wd cx F s) {h' : Heap} (k : Nat) (hk : ∀ a o,s.heap.get? a = some o → h'.get? a = some o) : Step cx F s F { s with heap := h',toks := k } :=
 ⟨fun _ h => h,fun _ h => .inl h,fun a o e _ => hk a o e,rfl,⟨fun a o e nx => hk a o (w.base a o e nx),ok.xi _ _ _ _ w.xi (fun _ h => h) (fun a o _ e => hk a o e),w.gens,w.f0,fun a f => let ⟨o,e⟩ := w.lt a f; ⟨o,hk a o e⟩,w.nx,fun a f => let ⟨o,e⟩ := w.xex a f; ⟨o,hk a o e⟩⟩⟩
theorem Step.push (ok : CxOk cx) (w : Wd cx F s) (o : Obj) (k : Nat) : Step cx F s F { s with heap := s.heap.push o,toks := k } :=
 Step.grown ok w k fun _ _ e => Heap.get?_push_of_some o e
theorem Wd.newNotX (w : Wd cx F s) {a : Addr} (h : s.heap.get? a = none) : ¬ cx.X a := fun x => by
 obtain ⟨o,e⟩ := w.xex a x
 rw [e] at h; injection h
theorem Wd.newNotF (w : Wd cx F s) {a : Addr} (h : s.heap.get? a = none) : ¬ F a := fun x => by
 obtain ⟨o,e⟩ := w.lt a x
 rw [e] at h; injection h
theorem Step.freeze (ok : CxOk cx) (w : Wd cx F s) (x : Step cx F s F' s') {a : Addr} {o : Obj} (h1 : s.heap.get? a = none) (h2 : s'.heap.get? a = some o) : Step cx F s (fun b => F' b ∨ b = a) s' :=
 ⟨fun b h => .inl (x.sub b h),fun b h => h.elim (x.new b) fun e => .inr (e ▸ h1),x.keep,x.os,
  ⟨x.wd.base,ok.xi _ _ _ _ x.wd.xi (fun _ h => .inl h) (fun _ _ _ e => e),x.wd.gens,fun b o h nx => .inl (x.wd.f0 b o h nx),fun b h => h.elim (x.wd.lt b) fun e => e ▸ ⟨o,h2⟩,
   fun b h => h.elim (x.wd.nx b) fun e => e ▸ w.newNotX h1,x.wd.xex⟩⟩
theorem Step.notF (x : Step cx F s F' s') {a : Addr} {o : Obj} (h : ¬ F a) (hl : s.heap.get? a = some o) : ¬ F' a := fun h' => by
 rcases x.new a h' with q | q
 ·exact h q
 ·rw [hl] at q; injection q
theorem Wd.glob (ok : CxOk cx) (w : Wd cx F s) : s.heap.Ns mainGlobals cx.mg := ok.glob.at' fun o e => w.base _ o e ok.gx
theorem Wd.blt (ok : CxOk cx) (w : Wd cx F s) : s.heap.Ns builtinsNs cx.mb := ok.blt.at' fun o e => w.base _ o e ok.bx
theorem Wd.lim (ok : CxOk cx) (w : Wd cx F s) : s.heap.NoLimit := ok.lim.at fun o e => w.base _ o e ok.limx
end
inductive BRep (cx : XCx) (F : AP) (h : Heap) : Value → D → Prop
 | rep {v : Value} {d : D} : Rep cx.T F h v d → BRep cx F h v d
 | own {a : Addr} {vs : List Value} {n : Nat} {l : List D} : ¬ cx.X a → h.get? a = some (lobj vs.toArray n) → vs.length ≤ lim → RepL cx.T F h vs l → BRep cx F h (.ref a) (.list l)
inductive BRepL (cx : XCx) (F : AP) (h : Heap) : List Value → List D → Prop
 | nil : BRepL cx F h [] []
 | cons {v : Value} {vs : List Value} {d : D} {ds : List D} : BRep cx F h v d → BRepL cx F h vs ds → BRepL cx F h (v :: vs) (d :: ds)
inductive RepR (cx : XCx) (F : AP) (lo : Heap) (h : Heap) : Value → R → Prop
 | val {v : Value} {d : D} : Rep cx.T F h v d → RepR cx F lo h v (.val d)
 | own {a : Addr} {vs : List Value} {n : Nat} {l : List D} : lo.get? a = none → ¬ F a → ¬ cx.X a → h.get? a = some (lobj vs.toArray n) → vs.length ≤ lim → RepL cx.T F h vs l → RepR cx F lo h (.ref a) (.own l)
 | bor {a : Addr} {vs : List Value} {n : Nat} {l : List D} : ¬ cx.X a → h.get? a = some (lobj vs.toArray n) → vs.length ≤ lim → RepL cx.T F h vs l → RepR cx F lo h (.ref a) (.bor l)
section
variable {cx : XCx} {F F' F'' : AP} {s s' s'' : Shared} {v : Value} {d : D} {r : R} {lo : Heap} {vs : List Value} {ds : List D}
theorem Step.brep (x : Step cx F s F' s') (w : Wd cx F s) (b : BRep cx F s.heap v d) : BRep cx F' s'.heap v d := by
 cases b with
 | rep q => exact .rep (x.rep w q)
 | own nx e z q => exact .own nx (x.keep _ _ e nx) z (x.repL w q)
theorem RepR.brep {h : Heap} (q : RepR cx F lo h v r) : BRep cx F h v r.ds := by
 cases q with
 | val q => exact .rep q
 | own _ _ nx e z q => exact .own nx e z q
 | bor nx e z q => exact .own nx e z q
theorem RepR.step (x : Step cx F s F' s') (w : Wd cx F s) (q : RepR cx F lo s.heap v r) : RepR cx F' lo s'.heap v r := by
 cases q with
 | val q => exact .val (x.rep w q)
 | own l nf nx e z q => exact .own l (x.notF nf e) nx (x.keep _ _ e nx) z (x.repL w q)
 | bor nx e z q => exact .bor nx (x.keep _ _ e nx) z (x.repL w q)
theorem RepR.low (x : Step cx F s F' s') {F'' : AP} {h : Heap} (q : RepR cx F'' s'.heap h v r) : RepR cx F'' s.heap h v r := by
 cases q with
 | val q => exact .val q
 | own l nf nx e z q => exact .own (x.fresh nx l) nf nx e z q
 | bor nx e z q => exact .bor nx e z q
theorem Step.fz (ok : CxOk cx) (w : Wd cx F s) (x : Step cx F s F' s') (q : RepR cx F' s.heap s'.heap v r) (e : r.fz = some d) :
  ∃ F'',Step cx F s F'' s' ∧ (∀ a,F' a → F'' a) ∧ Rep cx.T F'' s'.heap v d := by
 cases q with
 | val q => cases e; exact ⟨F',x,fun _ h => h,q⟩
 | own l nf nx g z q =>
  (injection e with e; subst e)
  exact ⟨_,x.freeze ok w l g,fun _ h => .inl h,.list (.inr rfl) g z (q.mono (fun _ h => .inl h) fun _ _ _ e => e)⟩
 | bor nx g z q => injection e
end
set_option genInjectivity false in
structure Bud (n : Nat) (A : Around) : Prop where
 hd : A.handled = none
 dp : A.depth + n < 890
 un : A.units + 10 * n + 200 < 9900
 fs : ∃ l,A.frames = some l
theorem Bud.lt {n k : Nat} {A : Around} (b : Bud n A) (h : k ≤ 200) : A.units + k < cLine := by have := b.un; show A.units + k < 9900; omega
set_option genInjectivity false in
structure BudE (n : Nat) (A : Around) : Prop extends Bud n A where
 sl : A.units + 10 * n + 207 < 9900
 fr : ∃ env l,A.frames = some (env :: l) ∧ env.scope.isGenerator = false ∧ env.scope.isCoroutine = false ∧ env.builtins = builtinsNs ∧ env.globals = mainGlobals
noncomputable def Post (cx : XCx) (F : AP) (s : Shared) (r : R) (Q : VP) : Prop :=
 ∀ v F' s',Step cx F s F' s' → RepR cx F' s.heap s'.heap v r → Q v s'
noncomputable def Ev (cx : XCx) (A : Around) (F : AP) (s : Shared) (t : Sem Value) (r : R) : Prop := ∀ Q E,Post cx F s r Q → wpAny (model cx.prog cx.w) A t Q E s
noncomputable def EvB (cx : XCx) (A : Around) (F : AP) (s : Shared) (t : Sem Bool) (b : Bool) : Prop := ∀ Q E,(∀ F' s',Step cx F s F' s' → Q b s') → wpAny (model cx.prog cx.w) A t Q E s
set_option genInjectivity false in
structure Sc where
 kinds : List (Str × NameKind)
 vars : List (Str × Nat)
 code : Option (Addr × PySem.Str) := none
 top : Bool := false
inductive KV (T : NAd) (F : AP) (h : Heap) : List (Str × Value) → List D → Prop
 | nil : KV T F h [] []
 | cons {k : List Nat} {v : Value} {d : D} {kvs : List (Str × Value)} {l : List D} : (∀ c ∈ k,c < 0x110000) → k.length ≤ lim → Rep T F h v d → KV T F h kvs l → KV T F h ((⟨k.toArray⟩,v) :: kvs) (.tup [.str k,d] :: l)
theorem KV.mono {T : NAd} {F F' : AP} {h h' : Heap} (hF : ∀ a,F a → F' a) (hk : ∀ a o,F a → h.get? a = some o → h'.get? a = some o) {kvs : List (Str × Value)} {l : List D} (q : KV T F h kvs l) : KV T F' h' kvs l := by
 induction q with
 | nil => exact .nil
 | cons a b r _ ih => exact .cons a b (r.mono hF hk) ih
inductive SlotRep (cx : XCx) (F : AP) (h : Heap) (ad : NAd) (i : Nat) : Option Value → Slot → Prop
 | unset {ov : Option Value} : SlotRep cx F h ad i ov .unset
 | val {v : Value} {d : D} : Rep cx.T F h v d → SlotRep cx F h ad i (some v) (.val d)
 | own {vs : List Value} {n : Nat} {l : List D} : ¬ F (ad i) → ¬ cx.X (ad i) → h.get? (ad i) = some (lobj vs.toArray n) → vs.length ≤ lim → RepL cx.T F h vs l → dSlot i = false → SlotRep cx F h ad i (some (.ref (ad i))) (.own l)
 | dic {kvs : List (Str × Value)} {l : List D} : ¬ F (ad i) → ¬ cx.X (ad i) → (ad i == sysModules) = false → h.DictOf (strKind cx.prog cx.w) (ad i) kvs → KV cx.T F h kvs l → l.length ≤ lim → dSlot i = true → SlotRep cx F h ad i (some (.ref (ad i))) (.own l)
 | fdic {a : Addr} {kvs : List (Str × Value)} {l : List D} : F a → (a == sysModules) = false → h.DictOf (strKind cx.prog cx.w) a kvs → KV cx.T F h kvs l → l.length ≤ lim → SlotRep cx F h ad i (some (.ref a)) (.fdic l)
 | app {b : Addr} {o : Obj} {j : Nat} : F b → h.get? b = some o → o = appObj (ad j) → SlotRep cx F h ad i (some (.ref b)) (.app j)
noncomputable def slotAt (ρ : List Slot) (i : Nat) : Slot := ρ.getD i .unset
set_option genInjectivity false in
structure EnvOK (cx : XCx) (ε : Sc) (env : Env) (F : AP) (h : Heap) (ρ : List Slot) (ad : NAd) (m cm : SV) : Prop where
 kind : env.scope.kind = .function
 names : env.scope.names = ε.kinds
 glob : env.globals = mainGlobals
 blt : env.builtins = builtinsNs
 code : ∀ c q,ε.code = some (c,q) → env.code = .ref c ∧ env.qual = q
 lx : ¬ cx.X env.locals
 cxx : ∀ n c,env.cells.lookup n = some c → ¬ cx.X c
 ns : h.Ns env.locals m
 cells : ∀ n c,env.cells.lookup n = some c → h.IsCell c (cm n)
 vars : ∀ x i,ε.vars.lookup x = some i →
  (ε.kinds.lookup x = some .local ∧ SlotRep cx F h ad i (m x) (slotAt ρ i)) ∨
  ((ε.kinds.lookup x = some .cell ∨ ε.kinds.lookup x = some .free) ∧ (∃ c,env.cells.lookup x = some c) ∧ SlotRep cx F h ad i (cm x) (slotAt ρ i))
section
variable {cx : XCx} {F F' : AP} {s s' : Shared} {ε : Sc} {env : Env} {ρ : List Slot} {ad : NAd} {m cm : SV}
theorem SlotRep.step {i : Nat} {ov : Option Value} {sl : Slot} (x : Step cx F s F' s') (w : Wd cx F s) (q : SlotRep cx F s.heap ad i ov sl) : SlotRep cx F' s'.heap ad i ov sl := by
 cases q with
 | unset => exact .unset
 | val q => exact .val (x.rep w q)
 | own nf nx g z q hd => exact .own (x.notF nf g) nx (x.keep _ _ g nx) z (x.repL w q) hd
 | dic nf nx sm g q z hd =>
  obtain ⟨o,es,ep,ho,r⟩ := g
  exact .dic (x.notF nf ho) nx sm ⟨o,es,ep,x.keep _ _ ho nx,r⟩ (q.mono x.sub fun a o f e => x.keep a o e (w.nx a f)) z hd
 | fdic f sm g q z =>
  obtain ⟨o,es,ep,ho,r⟩ := g
  exact .fdic (x.sub _ f) sm ⟨o,es,ep,x.keep _ _ ho (w.nx _ f),r⟩ (q.mono x.sub fun a o f e => x.keep a o e (w.nx a f)) z
 | app f g e => exact .app (x.sub _ f) (x.keep _ _ g (w.nx _ f)) e
theorem RepR.pushOwn (w : Wd cx F s) {vs : List Value} {l : List D} (z : vs.length ≤ lim) (q : RepL cx.T F s.heap vs l) : RepR cx F s.heap (s.heap.push (lobj vs.toArray 0)) (.ref s.heap.objs.size) (.own l) :=
 .own (n := 0) (zaz _) (w.newNotF (zaz _)) (w.newNotX (zaz _)) (Heap.get?_push_size _ rfl) z (q.mono (fun _ h => h) fun _ _ _ e => Heap.get?_push_of_some _ e)
theorem EnvOK.step (x : Step cx F s F' s') (w : Wd cx F s) (e : EnvOK cx ε env F s.heap ρ ad m cm) : EnvOK cx ε env F' s'.heap ρ ad m cm :=
 ⟨e.kind,e.names,e.glob,e.blt,e.code,e.lx,e.cxx,e.ns.at' fun o g => x.keep _ o g e.lx,fun n c hc => let ⟨o,g,d⟩ := e.cells n c hc; ⟨o,x.keep _ o g (e.cxx n c hc),d⟩,
  fun y i hy => (e.vars y i hy).imp (fun ⟨k,q⟩ => ⟨k,q.step x w⟩) fun ⟨k,c,q⟩ => ⟨k,c,q.step x w⟩⟩
end
noncomputable def FnAt (cx : XCx) (f : Nat) : Prop := ∃ o fd,cx.h0.get? (cx.fa f) = some o ∧ o.data = .func fd ∧ ¬ cx.X (cx.fa f)
set_option genInjectivity false in
structure CallOK (cx : XCx) (n : Nat) (cf : CfT) : Prop where
 cok : cx.cok cf
 call : ∀ f args d,cf f args = some d → FnAt cx f ∧ ∀ A F s vs,Bud n A → Wd cx F s → RepL cx.T F s.heap vs args → ∀ (Rs : Result → Shared → Prop),(∀ v F' s',Step cx F s F' s' → Rep cx.T F' s'.heap v d → Rs (.ok (.ret v)) s') →
  codeAny (model cx.prog cx.w) A (.call (.ref (cx.fa f)) ⟨vs,[]⟩) Rs s
set_option genInjectivity false in
structure Here (cx : XCx) (ε : Sc) (n : Nat) (cf : CfT) (A : Around) (env : Env) (F : AP) (s : Shared) (ρ : List Slot) (ad : NAd) (m cm : SV) : Prop where
 ok : CxOk cx
 calls : CallOK cx n cf
 bud : BudE n A
 wd : Wd cx F s
 env : EnvOK cx ε env F s.heap ρ ad m cm
theorem Here.step {cx : XCx} {ε : Sc} {n : Nat} {cf : CfT} {A : Around} {env : Env} {F F' : AP} {s s' : Shared} {ρ : List Slot} {ad : NAd} {m cm : SV}
  (H : Here cx ε n cf A env F s ρ ad m cm) (x : Step cx F s F' s') : Here cx ε n cf A env F' s' ρ ad m cm := ⟨H.ok,H.calls,H.bud,x.wd,H.env.step x H.wd⟩
noncomputable def SoundE (cx : XCx) (ε : Sc) (e : Expr) (x : X) : Prop :=
 ∀ n cf A env F s ρ ad m cm,Here cx ε n cf A env F s ρ ad m cm → ∀ r,ev cf x ρ = some [r] → Ev cx A F s (eval e env) r
noncomputable def SoundT (cx : XCx) (ε : Sc) (e : Expr) (x : X) : Prop :=
 ∀ n cf A env F s ρ ad m cm,Here cx ε n cf A env F s ρ ad m cm → ∀ b,evT cf x ρ = some b → EvB cx A F s (isTrue e env (eval e env)) b
set_option genInjectivity false in
structure Sound (cx : XCx) (ε : Sc) (e : Expr) (x : X) : Prop where
 ev : SoundE cx ε e x
 tr : SoundT cx ε e x
section
variable {cx : XCx} {A : Around} {F F' : AP} {s s' : Shared} {t : Sem Value} {r : R}
theorem Ev.here (w : Wd cx F s) {v : Value} (q : RepR cx F s.heap s.heap v r) : Ev cx A F s (pure v) r := fun _ _ h => wpAny_pure (h v F s (Step.refl w) q)
theorem Post.after {Q : VP} (x : Step cx F s F' s') (h : Post cx F s r Q) : Post cx F' s' r Q := fun v F'' s'' y q => h v F'' s'' (x.trans y) (q.low x)
theorem Ev.bind {α : Type} {k : Value → Sem α} {Q : α → Shared → Prop} {E : VP} (h : Ev cx A F s t r)
  (g : ∀ v F' s',Step cx F s F' s' → RepR cx F' s.heap s'.heap v r → wpAny (model cx.prog cx.w) A (k v) Q E s') : wpAny (model cx.prog cx.w) A (t >>= k) Q E s :=
 wb (h _ _ g)
end
inductive EvOp (cf : CfT) (ρ : List Slot) (o : Op) (a : X) (r : R) : Prop
 | mk (rs : List R) (e : ev cf a ρ = some rs) (h : opF o (rs.map R.ds) = some r)
inductive EvCons (cf : CfT) (ρ : List Slot) (a b : X) (rs : List R) : Prop
 | mk (x : R) (xs : List R) (ea : ev cf a ρ = some [x]) (eb : ev cf b ρ = some xs) (e : rs = x :: xs)
inductive ListInv (cx : XCx) (F : AP) (h : Heap) (v : Value) (l : List D) : Prop
 | mk (a : Addr) (vs : List Value) (n : Nat) (e : v = .ref a) (nx : ¬ cx.X a) (g : h.get? a = some (lobj vs.toArray n)) (z : vs.length ≤ lim) (q : RepL cx.T F h vs l)
inductive TupInv (cx : XCx) (F : AP) (h : Heap) (v : Value) (l : List D) : Prop
 | mk (a : Addr) (vs : List Value) (n : Nat) (e : v = .ref a) (f : F a) (g : h.get? a = some (tobj vs.toArray n)) (z : vs.length ≤ lim) (q : RepL cx.T F h vs l)
inductive StrInv (v : Value) (l : List Nat) : Prop
 | mk (t : Tok) (e : v = .str ⟨l.toArray⟩ t) (p : ∀ c ∈ l,c < 0x110000) (z : l.length ≤ lim)
inductive TwoInv (cx : XCx) (F : AP) (h : Heap) (vs : List Value) (a b : D) : Prop
 | mk (x y : Value) (e : vs = [x,y]) (qa : BRep cx F h x a) (qb : BRep cx F h y b)
section
variable {cf : CfT} {ρ : List Slot}
theorem ev_op {o : Op} {a : X} {r : R} (h : ev cf (.op o a) ρ = some [r]) : EvOp cf ρ o a r := by
 replace h := (zcp _).symm.trans h
 split at h
 ·rename_i rs e
  obtain ⟨r',e',h'⟩ := Option.map_eq_some_iff.mp h
  cases h'
  exact ⟨rs,e,e'⟩
 ·injection h
theorem zay {a b : X} {rs : List R} (h : ev cf (.cons a b) ρ = some rs) : EvCons cf ρ a b rs := by
 replace h := (zaX _).symm.trans h
 split at h
 ·rename_i x e
  obtain ⟨xs,e',h'⟩ := Option.map_eq_some_iff.mp h
  exact ⟨x,xs,e,e',h'.symm⟩
 ·injection h
theorem zbU {rs : List R} (h : ev cf .nil ρ = some rs) : rs = [] := by replace h := (zbZ _).symm.trans h; (injection h with h; subst h); rfl
end
noncomputable def op1 (f : Value → Sem Value) : List Value → Sem Value
 | [a] => f a
 | _ => unsupported "mine"
noncomputable def op2 (f : Value → Value → Sem Value) : List Value → Sem Value
 | [a,b] => f a b
 | _ => unsupported "mine"
noncomputable def OpOK (cx : XCx) (o : Op) (t : List Value → Sem Value) : Prop :=
 ∀ n A F s vs ds r,CxOk cx → BudE n A → Wd cx F s → BRepL cx F s.heap vs ds → opF o ds = some r → Ev cx A F s (t vs) r
theorem sz_lt {n : Nat} (h : n ≤ lim) : (n : Int) < 2 ^ 63 := by unfold lim at h; omega
theorem zaB {n : Nat} (h : n ≤ lim) : n ≤ sizeLine := by rw [sizeLine_eq]; unfold lim at h; omega
section
variable {cx : XCx} {F : AP} {s : Shared} {h : Heap} {v : Value} {A : Around}
theorem zaI {a : Addr} {vs : List Value} {n : Nat} (g : h.get? a = some (lobj vs.toArray n)) : h.IsList a vs.toArray := ⟨_,g,rfl,n,rfl⟩
theorem zfy {a : Addr} {vs : List Value} {n : Nat} (g : h.get? a = some (tobj vs.toArray n)) : IsTup h a vs.toArray := ⟨_,g,rfl,n,rfl⟩
theorem BRep.list_inv (w : Wd cx F s) {l : List D} (b : BRep cx F s.heap v (.list l)) : ListInv cx F s.heap v l := by
 cases b with
 | rep q =>
  cases q with
  | list f g z q => exact ⟨_,_,_,rfl,w.nx _ f,g,z,q⟩
 | own nx g z q => exact ⟨_,_,_,rfl,nx,g,z,q⟩
theorem BRep.tup_inv {l : List D} (b : BRep cx F h v (.tup l)) : TupInv cx F h v l := by
 cases b with
 | rep q =>
  cases q with
  | tup f g z q => exact ⟨_,_,_,rfl,f,g,z,q⟩
theorem BRep.str_inv {l : List Nat} (b : BRep cx F h v (.str l)) : StrInv v l := by
 cases b with
 | rep q => cases q with | str t p z => exact ⟨t,rfl,p,z⟩
theorem BRep.int_inv {i : Int} (b : BRep cx F h v (.int i)) : ∃ t,v = .int i t := by
 cases b with
 | rep q => cases q with | int _ t => exact ⟨t,rfl⟩
theorem BRep.bool_inv {i : Bool} (b : BRep cx F h v (.bool i)) : v = .bool i := by
 cases b with
 | rep q => cases q with | bool _ => rfl
theorem BRep.none_inv (b : BRep cx F h v .none) : v = .none := by
 cases b with
 | rep q => cases q with | none => rfl
theorem BRep.ty_inv {n : String} (b : BRep cx F h v (.ty n)) : v = .type n := by
 cases b with
 | rep q => cases q with | ty _ => rfl
theorem BRep.tok_inv {k : Nat} (b : BRep cx F h v (.tok k)) : v = .ref (cx.T k) := by
 cases b with
 | rep q => cases q with | tok _ => rfl
theorem BRepL.two {vs : List Value} {a b : D} (q : BRepL cx F h vs [a,b]) : TwoInv cx F h vs a b := by
 cases q with
 | cons p q => cases q with | cons p' q => cases q; exact ⟨_,_,rfl,p,p'⟩
theorem BRepL.one {vs : List Value} {a : D} (q : BRepL cx F h vs [a]) : ∃ x,vs = [x] ∧ BRep cx F h x a := by
 cases q with
 | cons p q => cases q; exact ⟨_,rfl,p⟩
theorem zbh (w : Wd cx F s) {d : D} {b : Bool} (q : BRep cx F s.heap v d) (e : d.truth = some b) : EvB cx A F s (truthy v) b := by
 intro Q E hQ
 cases d with
 | none => (injection e with e; subst e); rw [q.none_inv]; exact PyProof.Rows.truthy_none (hQ F s (Step.refl w))
 | bool b => (injection e with e; subst e); rw [q.bool_inv]; exact wpAny_truthy_bool (hQ F s (Step.refl w))
 | int i =>
  obtain ⟨t,rfl⟩ := q.int_inv
  (injection e with e; subst e)
  refine PyProof.Rows.truthy_int ?_
  have := hQ F s (Step.refl w)
  by_cases hi : i = 0
  ·subst hi; exact this
  ·have e1 : (i != 0) = true := bne_iff_ne.mpr hi
   rw [e1]
   simpa [hi] using this
 | str l =>
  obtain ⟨t,rfl,p,z⟩ := q.str_inv
  (injection e with e; subst e)
  refine P.truthy_str (by have := sz_lt z; show ¬ ((l.toArray.size : Nat) : Int) ≥ 2 ^ 63; rw [List.size_toArray]; omega) ?_
  have e : (((PySem.Str.mk l.toArray).length : Int) != 0) = !l.isEmpty := by
   show (((l.toArray.size : Nat) : Int) != 0) = _
   rw [List.size_toArray]
   cases l <;> simp <;> omega
  rw [e]
  exact hQ F _ ((Step.refl w).toks _)
 | list l =>
  obtain ⟨a,vs,n,rfl,nx,g,z,ql⟩ := q.list_inv w
  (injection e with e; subst e)
  refine wpAny_truthy_list (zaI g) (by rw [List.size_toArray]; exact sz_lt z) ?_
  have e : (!vs.toArray.isEmpty) = !l.isEmpty := by
   have := ql.length
   clear q
   cases vs <;> cases l <;> simp_all
  rw [e]
  exact hQ F _ ((Step.refl w).toks _)
 | tup l =>
  obtain ⟨a,vs,n,rfl,f,g,z,ql⟩ := q.tup_inv
  (injection e with e; subst e)
  refine PyProof.Rows.truthy_tuple (zfy g) (by rw [List.size_toArray]; exact sz_lt z) ?_
  have e : (!vs.toArray.isEmpty) = !l.isEmpty := by
   have := ql.length
   clear q
   cases vs <;> cases l <;> simp_all
  rw [e]
  exact hQ F _ ((Step.refl w).toks _)
 | tok k => injection e
 | ty n => injection e
end
section
variable {cx : XCx} {ε : Sc}
theorem SoundT.ofE {e : Expr} {x : X} (h : SoundE cx ε e x) (hf : ∀ env,isTrue e env (eval e env) = (do let v ← eval e env; standAt e.pos; holding [v] (truthy v))) : SoundT cx ε e x := by
 intro n cf A env F s ρ ad m cm H b hb Q E hQ
 unfold evT truthR at hb
 split at hb
 ·rename_i r e
  rw [hf]
  refine Ev.bind (h n cf A env F s ρ ad m cm H r e) fun v F' s' st q => ?_
  exact wb (wpAny_standAt (wpAny_holding (zbh st.wd q.brep hb _ _ fun F'' s'' st' => hQ F'' s'' (st.trans st'))))
 ·injection hb
theorem Sound.ofE {e : Expr} {x : X} (h : SoundE cx ε e x) (hf : ∀ env,isTrue e env (eval e env) = (do let v ← eval e env; standAt e.pos; holding [v] (truthy v))) : Sound cx ε e x := ⟨h,SoundT.ofE h hf⟩
noncomputable def constD : Const → Option D
 | .none => some .none
 | .bool b => some (.bool b)
 | .int i => some (.int i)
 | .str x => if x.cps.toList.all (fun c => decide (c < 0x110000)) && decide (x.cps.size ≤ lim) then some (.str x.cps.toList) else none
 | _ => none
theorem zab {c : Const} {k : Nat} {pos : Pos} {d : D} (hd : constD c = some d) : Sound cx ε (.Constant c k pos) (.const d) := by
 refine Sound.ofE ?_ fun _ => rfl
 intro n cf A env F s ρ ad m cm H r hr Q E hQ
 replace hr := (zaF _).symm.trans hr
 (injection hr with hr; injection hr with hr z; clear z; subst hr)
 cases c <;> try (first | (injection hd; done) | (injection hd with hd; subst hd))
 ·exact wpAny_pure (hQ _ F s (Step.refl H.wd) (.val .none))
 ·exact wpAny_pure (hQ _ F s (Step.refl H.wd) (.val (.bool _)))
 ·exact wpAny_Constant_int (hQ _ F _ ((Step.refl H.wd).toks _) (.val (.int _ _)))
 ·rename_i x
  replace hd : (if (x.cps.toList.all (fun c => decide (c < 0x110000)) && decide (x.cps.size ≤ lim)) = true then some (D.str x.cps.toList) else none) = some d := hd
  split at hd
  ·rename_i q
   (injection hd with hd; subst hd)
   simp only [Bool.and_eq_true,List.all_eq_true,decide_eq_true_eq] at q
   refine Calls.Constant_str (hQ _ F _ ((Step.refl H.wd).toks _) (.val ?_))
   exact Rep.str (l := x.cps.toList) _ q.1 (by rw [Array.length_toList]; exact q.2)
  ·injection hd
theorem zdW {n cf A env F s ρ ad m cm} (H : Here cx ε n cf A env F s ρ ad m cm) {x : Str} {i : Nat} (hv : ε.vars.lookup x = some i) (hn : (x == ("__classdict__" : Str)) = false) {Q E : VP}
  (h : ∀ v,SlotRep cx F s.heap ad i (some v) (slotAt ρ i) → Q v s) (hs : slotAt ρ i ≠ .unset) : wpAny (model cx.prog cx.w) A (loadName env x) Q E s := by
 have hk : env.scope.kind = .function := H.env.kind
 have key : ∀ {ov : Option Value},SlotRep cx F s.heap ad i ov (slotAt ρ i) → ∃ v,ov = some v ∧ SlotRep cx F s.heap ad i (some v) (slotAt ρ i) := by
  intro ov q
  generalize slotAt ρ i = sl at *
  cases q with
  | unset => exact absurd rfl hs
  | val q => exact ⟨_,rfl,.val q⟩
  | own a b c d q e => exact ⟨_,rfl,.own a b c d q e⟩
  | dic a b c d q z e => exact ⟨_,rfl,.dic a b c d q z e⟩
  | fdic a b c d e => exact ⟨_,rfl,.fdic a b c d e⟩
  | app a b c => exact ⟨_,rfl,.app a b c⟩
 rcases H.env.vars x i hv with ⟨k,q⟩ | ⟨k,⟨c,hc⟩,q⟩
 ·obtain ⟨v,e,q'⟩ := key q
  exact wpAny_loadName_local hk (by unfold Env.kindOf; rw [H.env.names]; exact k) H.env.ns e (h v q')
 ·obtain ⟨v,e,q'⟩ := key q
  have hcell := H.env.cells x c hc
  rw [e] at hcell
  rcases k with k | k
  ·exact wpAny_loadName_cell hk (by unfold Env.kindOf; rw [H.env.names]; exact k) hc hcell (h v q')
  ·exact wpAny_loadName_free hk (by unfold Env.kindOf; rw [H.env.names]; exact k) hc hcell (h v q') hn
theorem zej {n cf A env F s ρ ad m cm} (H : Here cx ε n cf A env F s ρ ad m cm) {x : Str} {i : Nat} {pos : Pos} (hv : ε.vars.lookup x = some i) (hn : (x == ("__classdict__" : Str)) = false) (hd : (x == ("__debug__" : Str)) = false) {r : R} (hr : ev cf (.var i) ρ = some [r]) {Q E : VP}
  (hQ : ∀ v,RepR cx F s.heap s.heap v r → Q v s) : wpAny (model cx.prog cx.w) A (eval (.Name x pos) env) Q E s := by
 refine wpAny_Name ?_ hd
 replace hr := (zbu _).symm.trans hr
 have hr' : ∀ sl,ρ[i]? = some sl → slotAt ρ i = sl := fun sl e => by unfold slotAt; simp [List.getD,e]
 cases hs : ρ[i]? with
 | none => rw [hs] at hr; injection hr
 | some sl =>
  rw [hs] at hr
  have hsl := hr' sl hs
  refine zdW H hv hn (fun v q => ?_) (by rw [hsl]; intro e; subst e; injection hr)
  rw [hsl] at q
  cases q with
  | unset => injection hr
  | val q => (injection hr with hr; injection hr with hr z; clear z; subst hr); exact hQ v (.val q)
  | own nf nx g z q hd =>
   cases (if_neg (show ¬ dSlot i = true by rw [hd]; exact Bool.false_ne_true)).symm.trans hr
   exact hQ _ (.bor nx g z q)
  | dic nf nx _ g q z hd => injection (if_pos hd).symm.trans hr
  | fdic a b c d e => injection hr
  | app a b c => injection hr
theorem ziK {x : Str} {i : Nat} {pos : Pos} (hv : ε.vars.lookup x = some i) (hn : (x == ("__classdict__" : Str)) = false) (hd : (x == ("__debug__" : Str)) = false) : Sound cx ε (.Name x pos) (.var i) :=
 Sound.ofE (fun n cf A env F s ρ ad m cm H r hr Q E hQ => zej H hv hn hd hr fun v q => hQ v F s (Step.refl H.wd) q) fun _ => rfl
theorem run2 {n cf A env F s ρ ad m cm} (H : Here cx ε n cf A env F s ρ ad m cm) {l r : Expr} {xl xr : X} {o : Op} {res : R} {f : Value → Value → Sem Value} (hl : SoundE cx ε l xl) (hr : SoundE cx ε r xr) (ho : OpOK cx o (op2 f))
  (he : ev cf (.op o (.cons xl (.cons xr .nil))) ρ = some [res]) {Q E : VP} (hQ : Post cx F s res Q) :
  wpAny (model cx.prog cx.w) A (eval l env) (fun a s₁ => wpAny (model cx.prog cx.w) A (eval r env) (fun b s₂ => wpAny (model cx.prog cx.w) A (f a b) Q E s₂) E s₁) E s := by
 obtain ⟨rs,h1,h2⟩ := ev_op he
 obtain ⟨ra,xs,ha,h3,rfl⟩ := zay h1
 obtain ⟨rb,ys,hb,h4,rfl⟩ := zay h3
 obtain rfl := zbU h4
 refine hl n cf A env F s ρ ad m cm H ra ha _ _ fun a F' s' st qa => ?_
 refine hr n cf A env F' s' ρ ad m cm (H.step st) rb hb _ _ fun b F'' s'' st' qb => ?_
 exact ho n A F'' s'' [a,b] _ res H.ok H.bud st'.wd (.cons (st'.brep st.wd qa.brep) (.cons qb.brep .nil)) h2 _ _ (hQ.after (st.trans st'))
theorem zah {l r : Expr} {op : Operator} {pos : Pos} {xl xr : X} {o : Op} (hl : Sound cx ε l xl) (hr : Sound cx ε r xr) (ho : OpOK cx o (op2 (binaryOp op))) : Sound cx ε (.BinOp l op r pos) (.op o (.cons xl (.cons xr .nil))) := by
 refine Sound.ofE ?_ fun _ => rfl
 intro n cf A env F s ρ ad m cm H res he Q E hQ
 exact wpAny_BinOp (run2 H hl.ev hr.ev ho he hQ)
theorem zae {l r : Expr} {op : CmpOp} {pos : Pos} {xl xr : X} {o : Op} (hl : Sound cx ε l xl) (hr : Sound cx ε r xr) (ho : OpOK cx o (op2 (compareOp op))) (hm : behindInMarks op r = false) : Sound cx ε (.Compare l [op] [r] pos) (.op o (.cons xl (.cons xr .nil))) := by
 have hE : SoundE cx ε (.Compare l [op] [r] pos) (.op o (.cons xl (.cons xr .nil))) := by
  intro n cf A env F s ρ ad m cm H res he Q E hQ
  exact wpAny_Compare1 (run2 H hl.ev hr.ev ho he hQ) hm
 refine ⟨hE, ?_⟩
 intro n cf A env F s ρ ad m cm H b hb Q E hQ
 unfold evT truthR at hb
 split at hb
 ·rename_i res e
  refine wpAny_isTrue_Compare1 (run2 H hl.ev hr.ev ho e fun v F' s' st q => ?_) hm
  exact zbh st.wd q.brep hb _ _ fun F'' s'' st' => hQ F'' s'' (st.trans st')
 ·injection hb
theorem zbR {e : Expr} {op : UnaryOp} {pos : Pos} {x : X} {o : Op} (h : Sound cx ε e x) (ho : OpOK cx o (op1 (unaryOp op))) (hn : op ≠ .Not) : Sound cx ε (.UnaryOp op e pos) (.op o (.cons x .nil)) := by
 refine Sound.ofE ?_ fun _ => by cases op <;> first | rfl | exact absurd rfl hn
 intro n cf A env F s ρ ad m cm H res he Q E hQ
 obtain ⟨rs,h1,h2⟩ := ev_op he
 obtain ⟨ra,xs,ha,h3,rfl⟩ := zay h1
 obtain rfl := zbU h3
 show wpAny _ _ (do let v ← eval e env; standAt pos; holding [v] (unaryOp op v)) Q E s
 refine Ev.bind (h.ev n cf A env F s ρ ad m cm H ra ha) fun a F' s' st qa => ?_
 refine wb (wpAny_standAt (wpAny_holding ?_))
 exact ho n A F' s' [a] _ res H.ok H.bud st.wd (.cons qa.brep .nil) h2 _ _ (hQ.after st)
theorem zbi {e : Expr} {pos : Pos} {x : X} (h : Sound cx ε e x) : Sound cx ε (.UnaryOp .Not e pos) (.not x) := by
 constructor
 ·intro n cf A env F s ρ ad m cm H res he Q E hQ
  replace he := (zbE _).symm.trans he
  split at he
  ·rename_i r e1
   obtain ⟨b,hb,h2⟩ := Option.map_eq_some_iff.mp he
   (injection h2 with h2 z; injection z; subst h2)
   show wpAny _ _ (do let v ← eval e env; standAt pos; holding [v] (unaryOp .Not v)) Q E s
   refine Ev.bind (h.ev n cf A env F s ρ ad m cm H r e1) fun a F' s' st qa => ?_
   refine wb (wpAny_standAt (wpAny_holding ?_))
   exact not_of (zbh st.wd qa.brep hb _ _ fun F'' s'' st' => hQ _ F'' s'' (st.trans st') (.val (.bool _)))
  ·injection he
 ·intro n cf A env F s ρ ad m cm H b hb Q E hQ
  unfold evT truthR at hb
  split at hb
  ·rename_i res e1
   replace e1 := (zbE _).symm.trans e1
   split at e1
   ·rename_i r e2
    obtain ⟨b',hb',h2⟩ := Option.map_eq_some_iff.mp e1
    (injection h2 with h2 z; injection z; subst h2)
    simp only [R.ds,D.truth,Option.some.injEq] at hb
    subst hb
    show wpAny _ _ (do return !(← isTrue e env (eval e env))) Q E s
    refine wb (h.tr n cf A env F s ρ ad m cm H b' (by unfold evT truthR; rw [e2]; exact hb') _ _ fun F' s' st => ?_)
    exact wpAny_pure (hQ F' s' st)
   ·injection e1
  ·injection hb
theorem zcj {c t f : Expr} {pos : Pos} {xc xt xf : X} (hc : Sound cx ε c xc) (ht : Sound cx ε t xt) (hf : Sound cx ε f xf) : Sound cx ε (.IfExp c t f pos) (.ite xc xt xf) := by
 constructor
 ·intro n cf A env F s ρ ad m cm H res he Q E hQ
  replace he := (zbv _).symm.trans he
  show wpAny _ _ (do if ← isTrue c env (eval c env) then eval t env else eval f env) Q E s
  split at he
  ·rename_i hb
   refine wb (hc.tr n cf A env F s ρ ad m cm H true hb _ _ fun F' s' st => ?_)
   exact ht.ev n cf A env F' s' ρ ad m cm (H.step st) res he _ _ (hQ.after st)
  ·rename_i hb
   refine wb (hc.tr n cf A env F s ρ ad m cm H false hb _ _ fun F' s' st => ?_)
   exact hf.ev n cf A env F' s' ρ ad m cm (H.step st) res he _ _ (hQ.after st)
  ·injection he
 ·intro n cf A env F s ρ ad m cm H b hb Q E hQ
  unfold evT at hb
  have he : ev cf (.ite xc xt xf) ρ = ev cf (.ite xc xt xf) ρ := rfl
  show wpAny _ _ (do if ← isTrue c env (eval c env) then isTrue t env (eval t env) else isTrue f env (eval f env)) Q E s
  rw [zbv] at hb
  split at hb
  ·rename_i hb'
   refine wb (hc.tr n cf A env F s ρ ad m cm H true hb' _ _ fun F' s' st => ?_)
   exact ht.tr n cf A env F' s' ρ ad m cm (H.step st) b hb _ _ fun F'' s'' st' => hQ F'' s'' (st.trans st')
  ·rename_i hb'
   refine wb (hc.tr n cf A env F s ρ ad m cm H false hb' _ _ fun F' s' st => ?_)
   exact hf.tr n cf A env F' s' ρ ad m cm (H.step st) b hb _ _ fun F'' s'' st' => hQ F'' s'' (st.trans st')
  ·injection hb
inductive SoundB (cx : XCx) (ε : Sc) : BoolOp → List Expr → X → Prop
 | one {op : BoolOp} {e : Expr} {x : X} : Sound cx ε e x → SoundB cx ε op [e] x
 | and {e : Expr} {x : X} {es : List Expr} {y : X} : Sound cx ε e x → SoundB cx ε .And es y → SoundB cx ε .And (e :: es) (.and x y)
 | or {e : Expr} {x : X} {es : List Expr} {y : X} : Sound cx ε e x → SoundB cx ε .Or es y → SoundB cx ε .Or (e :: es) (.or x y)
theorem SoundB.ne {op : BoolOp} {es : List Expr} {x : X} (h : SoundB cx ε op es x) : ∃ e r,es = e :: r := by cases h <;> exact ⟨_,_,rfl⟩
theorem zcX {pos : Pos} {op : BoolOp} {x y : Sem Value} {r : List (Sem Value)} : boolOp pos op (x :: y :: r) = (do
  let v ← x
  standAt pos
  let t ← holding [v] (truthy v)
  match op,t with
  | .And,false | .Or,true => pure v
  | _,_ => boolOp pos op (y :: r)) := rfl
theorem zgp {n cf A env} {pos : Pos} {op : BoolOp} {es : List Expr} {x : X} (h : SoundB cx ε op es x) :
  ∀ F s ρ ad m cm,Here cx ε n cf A env F s ρ ad m cm → ∀ r,ev cf x ρ = some [r] → Ev cx A F s (boolOp pos op (evalEach es env)) r := by
 induction h with
 | one h => intro F s ρ ad m cm H r hr; exact h.ev n cf A env F s ρ ad m cm H r hr
 | @and e x es y h1 h2 ih =>
  intro F s ρ ad m cm H r hr Q E hQ
  obtain ⟨e2,r2,rfl⟩ := h2.ne
  show wpAny _ _ (boolOp pos .And (eval e env :: eval e2 env :: evalEach r2 env)) Q E s
  rw [zcX]
  replace hr := (zbf _).symm.trans hr
  split at hr
  ·rename_i x1 e1
   refine Ev.bind (h1.ev n cf A env F s ρ ad m cm H x1 e1) fun v F' s' st q => ?_
   refine wb (wpAny_standAt (wb (wpAny_holding ?_)))
   split at hr
   ·rename_i hb
    refine zbh st.wd q.brep hb _ _ fun F'' s'' st' => ?_
    exact ih F'' s'' ρ ad m cm ((H.step st).step st') r hr _ _ (hQ.after (st.trans st'))
   ·rename_i hb
    cases hr
    refine zbh st.wd q.brep hb _ _ fun F'' s'' st' => ?_
    exact wpAny_pure (hQ v F'' s'' (st.trans st') (q.step st' st.wd))
   ·injection hr
  ·injection hr
 | @or e x es y h1 h2 ih =>
  intro F s ρ ad m cm H r hr Q E hQ
  obtain ⟨e2,r2,rfl⟩ := h2.ne
  show wpAny _ _ (boolOp pos .Or (eval e env :: eval e2 env :: evalEach r2 env)) Q E s
  rw [zcX]
  replace hr := (zcf _).symm.trans hr
  split at hr
  ·rename_i x1 e1
   refine Ev.bind (h1.ev n cf A env F s ρ ad m cm H x1 e1) fun v F' s' st q => ?_
   refine wb (wpAny_standAt (wb (wpAny_holding ?_)))
   split at hr
   ·rename_i hb
    refine zbh st.wd q.brep hb _ _ fun F'' s'' st' => ?_
    exact ih F'' s'' ρ ad m cm ((H.step st).step st') r hr _ _ (hQ.after (st.trans st'))
   ·rename_i hb
    cases hr
    refine zbh st.wd q.brep hb _ _ fun F'' s'' st' => ?_
    exact wpAny_pure (hQ v F'' s'' (st.trans st') (q.step st' st.wd))
   ·injection hr
  ·injection hr
theorem zix {n cf A env} {op : BoolOp} {es : List Expr} {x : X} (h : SoundB cx ε op es x) :
  ∀ F s ρ ad m cm,Here cx ε n cf A env F s ρ ad m cm → ∀ b,evT cf x ρ = some b → EvB cx A F s (allTrue op es env) b := by
 induction h with
 | @one op e x h =>
  intro F s ρ ad m cm H b hb Q E hQ
  show wpAny _ _ (do
   match op, ← isTrue e env (eval e env) with
   | .And,false => pure false
   | .Or,true => pure true
   | _,_ => allTrue op [] env) Q E s
  refine wb (h.tr n cf A env F s ρ ad m cm H b hb _ _ fun F' s' st => ?_)
  cases op <;> cases b <;> exact wpAny_pure (hQ F' s' st)
 | @and e x es y h1 h2 ih =>
  intro F s ρ ad m cm H b hb Q E hQ
  show wpAny _ _ (do
   match BoolOp.And, ← isTrue e env (eval e env) with
   | .And,false => pure false
   | .Or,true => pure true
   | _,_ => allTrue .And es env) Q E s
  unfold evT at hb
  rw [zbf] at hb
  split at hb
  ·rename_i x1 e1
   split at hb
   ·rename_i hb'
    refine wb (h1.tr n cf A env F s ρ ad m cm H true (by unfold evT truthR; rw [e1]; exact hb') _ _ fun F' s' st => ?_)
    exact ih F' s' ρ ad m cm (H.step st) b hb _ _ fun F'' s'' st' => hQ F'' s'' (st.trans st')
   ·rename_i hb'
    refine wb (h1.tr n cf A env F s ρ ad m cm H false (by unfold evT truthR; rw [e1]; exact hb') _ _ fun F' s' st => ?_)
    have : b = false := by
     have : some b = some false := hb.symm.trans hb'
     cases this; rfl
    subst this
    exact wpAny_pure (hQ F' s' st)
   ·injection hb
  ·injection hb
 | @or e x es y h1 h2 ih =>
  intro F s ρ ad m cm H b hb Q E hQ
  show wpAny _ _ (do
   match BoolOp.Or, ← isTrue e env (eval e env) with
   | .And,false => pure false
   | .Or,true => pure true
   | _,_ => allTrue .Or es env) Q E s
  unfold evT at hb
  rw [zcf] at hb
  split at hb
  ·rename_i x1 e1
   split at hb
   ·rename_i hb'
    refine wb (h1.tr n cf A env F s ρ ad m cm H false (by unfold evT truthR; rw [e1]; exact hb') _ _ fun F' s' st => ?_)
    exact ih F' s' ρ ad m cm (H.step st) b hb _ _ fun F'' s'' st' => hQ F'' s'' (st.trans st')
   ·rename_i hb'
    refine wb (h1.tr n cf A env F s ρ ad m cm H true (by unfold evT truthR; rw [e1]; exact hb') _ _ fun F' s' st => ?_)
    have : b = true := by
     have : some b = some true := hb.symm.trans hb'
     cases this; rfl
    subst this
    exact wpAny_pure (hQ F' s' st)
   ·injection hb
  ·injection hb
theorem zaq {op : BoolOp} {es : List Expr} {x : X} {pos : Pos} (h : SoundB cx ε op es x) : Sound cx ε (.BoolOp op es pos) x :=
 ⟨fun _ _ _ _ F s ρ ad m cm H r hr => zgp h F s ρ ad m cm H r hr,fun _ _ _ _ F s ρ ad m cm H b hb => zix h F s ρ ad m cm H b hb⟩
end
theorem zce {α : Type} {p : Prop} [Decidable p] {x y : α} (h : (if p then some x else none) = some y) : p ∧ x = y := by
 by_cases q : p
 ·rw [if_pos q] at h; exact ⟨q,Option.some.inj h⟩
 ·rw [if_neg q] at h; injection h
theorem zcN {f : D → D → Option R} {ds : List D} {r : R} (h : two f ds = some r) : ∃ a b,ds = [a,b] ∧ f a b = some r := by
 rcases ds with _ | ⟨a,_ | ⟨b,_ | ⟨c,t⟩⟩⟩ <;> first | exact ⟨a,b,rfl,h⟩ | injection h
theorem zcB {d : D} {i : Int} (h : intD d = some i) : d = .int i := by cases d <;> cases h; rfl
theorem zbF {d : D} {i : List Nat} (h : strO d = some i) : d = .str i := by cases d <;> cases h; rfl
theorem zkV {d : D} {i : List D} (h : lstO d = some i) : d = .list i := by cases d <;> cases h; rfl
theorem zfc {f : List Nat → List Nat → List Nat → Option R} {ds : List D} {r : R} (h : str3 f ds = some r) : ∃ a b c,ds = [.str a,.str b,.str c] ∧ f a b c = some r := by
 rcases ds with _ | ⟨a,_ | ⟨b,_ | ⟨c,_ | ⟨d,t⟩⟩⟩⟩
 case cons.cons.cons.nil =>
  obtain ⟨a,e,h⟩ := Option.bind_eq_some_iff.mp h
  obtain ⟨b,e2,h⟩ := Option.bind_eq_some_iff.mp h
  obtain ⟨c,e3,h⟩ := Option.bind_eq_some_iff.mp h
  exact ⟨a,b,c,by rw [zbF e,zbF e2,zbF e3],h⟩
 all_goals injection h
theorem zfz {f : Int → Int → Option R} {ds : List D} {r : R} (h : int2 f ds = some r) : ∃ a b,ds = [.int a,.int b] ∧ f a b = some r := by
 obtain ⟨a,b,rfl,h⟩ := zcN h
 obtain ⟨i,e,h⟩ := Option.bind_eq_some_iff.mp h
 obtain ⟨j,e2,h⟩ := Option.bind_eq_some_iff.mp h
 exact ⟨i,j,by rw [zcB e,zcB e2],h⟩
section
variable {cx : XCx}
theorem zaD : OpOK cx .add (op2 (binaryOp .Add)) := by
 intro n A F s vs ds r ok bud w q he Q E hQ
 obtain ⟨a,b,rfl,he⟩ := zcN (f := addD) he
 obtain ⟨x,y,rfl,qa,qb⟩ := q.two
 cases a with
 | int a =>
  obtain ⟨b,e,he⟩ := Option.bind_eq_some_iff.mp he
  obtain rfl := zcB e
  (injection he with he; subst he)
  obtain ⟨t,rfl⟩ := qa.int_inv
  obtain ⟨u,rfl⟩ := qb.int_inv
  exact P.add_int (hQ _ F _ ((Step.refl w).toks _) (.val (.int _ _)))
 | str a =>
  obtain ⟨b,e,he⟩ := Option.bind_eq_some_iff.mp he
  obtain rfl := zbF e
  obtain ⟨hl,rfl⟩ := zce he
  obtain ⟨t,rfl,pa,za⟩ := qa.str_inv
  obtain ⟨u,rfl,pb,zb⟩ := qb.str_inv
  refine PyProof.Rows.add_str (fun t' tk => hQ _ F _ ((Step.refl w).toks _) (.val ?_)) (by
   show a.toArray.size + b.toArray.size ≤ sizeLine
   rw [List.size_toArray,List.size_toArray]; exact zaB hl)
  rw [show (PySem.Str.mk a.toArray ++ PySem.Str.mk b.toArray) = PySem.Str.mk (a ++ b).toArray from congrArg PySem.Str.mk (by simp)]
  exact .str _ (fun c hc => (List.mem_append.mp hc).elim (pa c) (pb c)) (by rw [List.length_append]; exact hl)
 | list a =>
  obtain ⟨b,e,he⟩ := Option.bind_eq_some_iff.mp he
  obtain rfl := zkV e
  obtain ⟨hl,rfl⟩ := zce he
  obtain ⟨l,vs,k,rfl,nx,g,z,q1⟩ := qa.list_inv w
  obtain ⟨l',vs',k',rfl,nx',g',z',q2⟩ := qb.list_inv w
  have hz : (vs ++ vs').length ≤ lim := by rw [List.length_append,q1.length,q2.length]; exact hl
  have ea : vs.toArray ++ vs'.toArray = (vs ++ vs').toArray := by simp
  refine concat_meets ⟨_,g,rfl⟩ ⟨_,g',rfl⟩ noFill_list_add seq_list_add PySem.F.slot_list_add PySem.F.entry_list_add (PySem.F.args_list_add_2 _ _) (list_addW l l' vs.toArray vs'.toArray k k' none none #[] #[] (by rw [List.size_toArray,List.size_toArray, ← List.length_append]; exact zaB hz)) ⟨g,g', ?_⟩
  rw [ea]
  exact hQ _ F _ (Step.push ok w _ _) (.pushOwn w hz (q1.append q2))
 | _ => injection he
theorem zec : OpOK cx .sub (op2 (binaryOp .Sub)) := by
 intro n A F s vs ds r ok bud w q he Q E hQ
 obtain ⟨a,b,rfl,he⟩ := zfz (show opSub ds = some r from he)
 (injection he with he; subst he)
 obtain ⟨x,y,rfl,qa,qb⟩ := q.two
 obtain ⟨t,rfl⟩ := qa.int_inv
 obtain ⟨u,rfl⟩ := qb.int_inv
 exact P.sub_int (hQ _ F _ ((Step.refl w).toks _) (.val (.int _ _)))
theorem zdC : OpOK cx .neg (op1 (unaryOp .USub)) := by
 intro n A F s vs ds r ok bud w q he Q E hQ
 delta opF at he; dsimp only at he
 unfold opNeg at he
 split at he <;> (first | (injection he; done) | (injection he with he; subst he))
 obtain ⟨x,rfl,qa⟩ := q.one
 obtain ⟨t,rfl⟩ := qa.int_inv
 exact P.neg_int (hQ _ F _ ((Step.refl w).toks _) (.val (.int _ _)))
theorem zlm : OpOK cx .fdiv (op2 (binaryOp .FloorDiv)) := by
 intro n A F s vs ds r ok bud w q he Q E hQ
 obtain ⟨a,b,rfl,he⟩ := zfz (show opDiv ds = some r from he)
 by_cases hb : b = 0
 ·injection (if_pos hb).symm.trans he
 (injection (if_neg hb).symm.trans he with q; subst q)
 obtain ⟨x,y,rfl,qa,qb⟩ := q.two
 obtain ⟨t,rfl⟩ := qa.int_inv
 obtain ⟨u,rfl⟩ := qb.int_inv
 obtain ⟨env,l,e1,e2,e3,e4,e5⟩ := bud.fr
 refine PyProof.Rows.floordiv_int hb (hQ _ F _ ((Step.refl w).toks _) (.val (.int _ _))) (.inr (PylongRoom.of (w.lim ok) ?_ (SeerAt.of (ok.seer _ w.base) ok.tree e1 e2 e3 e4 e5)))
 exact Nat.lt_of_le_of_lt (Nat.add_le_add_right (Nat.le_of_lt (Nat.lt_of_le_of_lt (Nat.le_add_right _ _) bud.dp)) 100) (by decide)
theorem zfZ : OpOK cx .mod (op2 (binaryOp .Mod)) := by
 intro n A F s vs ds r ok bud w q he Q E hQ
 obtain ⟨a,b,rfl,he⟩ := zfz (show opMod ds = some r from he)
 by_cases hb : b = 0
 ·injection (if_pos hb).symm.trans he
 (injection (if_neg hb).symm.trans he with q; subst q)
 obtain ⟨x,y,rfl,qa,qb⟩ := q.two
 obtain ⟨t,rfl⟩ := qa.int_inv
 obtain ⟨u,rfl⟩ := qb.int_inv
 exact PyProof.Rows.mod_int' hb (hQ _ F _ ((Step.refl w).toks _) (.val (.int _ _)))
theorem ze5 {op : CmpOp} {f : D → D → Option Bool} {vs : List Value} {ds : List D} {F : AP} {s : Shared} {A : Around} {r : R} (w : Wd cx F s) (q : BRepL cx F s.heap vs ds) (he : opBool f ds = some r)
  (h : ∀ x y a b c,BRep cx F s.heap x a → BRep cx F s.heap y b → f a b = some c → ∀ (Q E : VP),(∀ k,Q (.bool c) { s with toks := k }) → wpAny (model cx.prog cx.w) A (compareOp op x y) Q E s) :
  Ev cx A F s (op2 (compareOp op) vs) r := by
 intro Q E hQ
 unfold opBool at he
 split at he
 ·obtain ⟨c,hc,e⟩ := Option.map_eq_some_iff.mp he
  subst e
  obtain ⟨x,y,rfl,qa,qb⟩ := q.two
  exact h x y _ _ c qa qb hc Q E fun k => hQ _ F _ ((Step.refl w).toks k) (.val (.bool _))
 ·injection he
theorem BRep.reads {F : AP} {h : Heap} {v : Value} {d : D} {n : Nat} (q : BRep cx F h v d) (e : d.ok n = true) (hn : n ≤ 60) : (∃ as,Reads h v d.toPy as) ∧ PySem.SeqAt.shaped d.toPy = true := by
 cases q with
 | rep q => exact ⟨q.reads e,q.shaped e hn⟩
 | own nx g z q =>
  cases n with
  | zero => simp [D.ok] at e
  | succ n =>
   simp only [D.ok] at e
   obtain ⟨as,x⟩ := q.reads e
   refine ⟨⟨_,by unfold D.toPy; exact Reads.list g rfl rfl (by rw [List.toList_toArray]; exact x)⟩, ?_⟩
   have l := q.lay e
   unfold PySem.SeqAt.shaped D.toPy PyData.canLay0 PyData.depth
   rw [l.1,Bool.true_and]; exact decide_eq_true (by omega)
theorem zf2 (a b : List Nat) : ((PySem.Str.mk a.toArray).cps.toList == (PySem.Str.mk b.toArray).cps.toList) = decide (a = b) := by
 show (a == b) = decide (a = b)
 by_cases h : a = b
 ·subst h; simp
 ·simp [h]
theorem eq_ok {F : AP} {s : Shared} {A : Around} {n : Nat} {x y : Value} {a b : D} {c : Bool} (bud : BudE n A) (qa : BRep cx F s.heap x a) (qb : BRep cx F s.heap y b) (hc : eqD a b = some c)
  {Q E : VP} (h : ∀ k,Q (.bool c) { s with toks := k }) : wpAny (model cx.prog cx.w) A (compareOp .Eq x y) Q E s := by
 unfold eqD at hc
 split at hc
 ·(injection hc with hc; subst hc)
  obtain ⟨t,rfl,_,_⟩ := qa.str_inv
  obtain ⟨u,rfl,_,_⟩ := qb.str_inv
  exact P.eq_str (by rw [zf2]; exact h s.toks)
 ·(injection hc with hc; subst hc)
  obtain ⟨t,rfl⟩ := qa.int_inv
  obtain ⟨u,rfl⟩ := qb.int_inv
  exact P.eq_int (by rw [show ∀ i j : Int,(i == j) = decide (i = j) from fun i j => rfl]; exact h s.toks)
 ·split at hc <;> (first | (injection hc; done) | (injection hc with hc; subst hc))
  rename_i hok
  simp only [Bool.and_eq_true] at hok
  obtain ⟨⟨as,ra⟩,sa⟩ := qa.reads hok.1 (by decide)
  obtain ⟨⟨bs,rb⟩,sb⟩ := qb.reads hok.2 (by decide)
  exact PyProof.Rows.eq_dataH ra rb sa sb (bud.lt (by decide)) (h s.toks)
theorem ne_ok {F : AP} {s : Shared} {A : Around} {n : Nat} {x y : Value} {a b : D} {c : Bool} (bud : BudE n A) (qa : BRep cx F s.heap x a) (qb : BRep cx F s.heap y b) (hc : eqD a b = some c)
  {Q E : VP} (h : ∀ k,Q (.bool (!c)) { s with toks := k }) : wpAny (model cx.prog cx.w) A (compareOp .NotEq x y) Q E s := by
 unfold eqD at hc
 split at hc
 ·(injection hc with hc; subst hc)
  obtain ⟨t,rfl,_,_⟩ := qa.str_inv
  obtain ⟨u,rfl,_,_⟩ := qb.str_inv
  exact P.ne_str (by show Q (.bool (!(_ == _))) s; rw [zf2]; exact h s.toks)
 ·(injection hc with hc; subst hc)
  obtain ⟨t,rfl⟩ := qa.int_inv
  obtain ⟨u,rfl⟩ := qb.int_inv
  exact P.ne_int (by show Q (.bool (!(_ == _))) s; exact h s.toks)
 ·split at hc <;> (first | (injection hc; done) | (injection hc with hc; subst hc))
  rename_i hok
  simp only [Bool.and_eq_true] at hok
  obtain ⟨⟨as,ra⟩,sa⟩ := qa.reads hok.1 (by decide)
  obtain ⟨⟨bs,rb⟩,sb⟩ := qb.reads hok.2 (by decide)
  exact PyProof.Rows.ne_dataH ra rb sa sb (bud.lt (by decide)) (h s.toks)
theorem op_eq : OpOK cx .eq (op2 (compareOp .Eq)) := by
 intro n A F s vs ds r ok bud w q he
 exact ze5 w q he fun x y a b c qa qb hc Q E h => eq_ok bud qa qb hc h
theorem op_ne : OpOK cx .ne (op2 (compareOp .NotEq)) := by
 intro n A F s vs ds r ok bud w q he
 refine ze5 w q he fun x y a b c qa qb hc Q E h => ?_
 obtain ⟨c',hc',rfl⟩ := Option.map_eq_some_iff.mp hc
 exact ne_ok bud qa qb hc' h
theorem in_ok {F : AP} {s : Shared} {A : Around} {n : Nat} {x y : Value} {a b : D} {c : Bool} (w : Wd cx F s) (bud : BudE n A) (qa : BRep cx F s.heap x a) (qb : BRep cx F s.heap y b) (hc : inD a b = some c)
  {Q E : VP} (h : ∀ k,Q (.bool c) { s with toks := k }) : wpAny (model cx.prog cx.w) A (compareOp .In x y) Q E s := by
 have hu : A.units + 65 < cLine := bud.lt (by decide)
 unfold inD at hc
 split at hc
 ·rename_i l
  split at hc <;> (first | (injection hc; done) | (injection hc with hc; subst hc))
  rename_i hok
  simp only [Bool.and_eq_true] at hok
  obtain ⟨⟨as,ra⟩,sa⟩ := qa.reads hok.2 (by decide)
  obtain ⟨⟨bs,rb⟩,sb⟩ := qb.reads (n := 9) (by simp only [D.ok]; exact hok.1) (by decide)
  unfold D.toPy at rb sb
  have l1 := SeqAt.canLay_of_shaped sb
  have l2 := SeqAt.canLay_of_shaped sa
  have l3 := SeqAt.depth_of_shaped sa
  have l4 := Nat.min_le_right (PyData.depthAll (D.toPys l)) a.toPy.depth
  exact SeqAt.in_list_reads rb ra l1 l2 (by show A.units + 1 + _ < 9900; have := bud.un; omega) (h s.toks)
 ·rename_i l
  split at hc <;> (first | (injection hc; done) | (injection hc with hc; subst hc))
  rename_i hok
  simp only [Bool.and_eq_true] at hok
  obtain ⟨⟨as,ra⟩,sa⟩ := qa.reads hok.2 (by decide)
  obtain ⟨⟨bs,rb⟩,sb⟩ := qb.reads (n := 9) (by simp only [D.ok]; exact hok.1) (by decide)
  unfold D.toPy at rb sb
  have l1 := SeqAt.canLay_of_shaped sb
  have l2 := SeqAt.canLay_of_shaped sa
  have l3 := SeqAt.depth_of_shaped sa
  have l4 := Nat.min_le_right (PyData.depthAll (D.toPys l)) a.toPy.depth
  exact SeqAt.in_tuple_reads rb ra l1 l2 (by show A.units + 1 + _ < 9900; have := bud.un; omega) (h s.toks)
 ·split at hc <;> (first | (injection hc; done) | (injection hc with hc; subst hc))
  obtain ⟨t,rfl,_,_⟩ := qa.str_inv
  obtain ⟨u,rfl,_,_⟩ := qb.str_inv
  exact P.in_str (h s.toks)
 ·injection hc
theorem zkK {F : AP} {s : Shared} {A : Around} {n : Nat} {x y : Value} {a b : D} {c : Bool} (w : Wd cx F s) (bud : BudE n A) (qa : BRep cx F s.heap x a) (qb : BRep cx F s.heap y b) (hc : inD a b = some c)
  {Q E : VP} (h : ∀ k,Q (.bool (!c)) { s with toks := k }) : wpAny (model cx.prog cx.w) A (compareOp .NotIn x y) Q E s := by
 have hu : A.units + 65 < cLine := bud.lt (by decide)
 unfold inD at hc
 split at hc
 ·rename_i l
  split at hc <;> (first | (injection hc; done) | (injection hc with hc; subst hc))
  rename_i hok
  simp only [Bool.and_eq_true] at hok
  obtain ⟨⟨as,ra⟩,sa⟩ := qa.reads hok.2 (by decide)
  obtain ⟨⟨bs,rb⟩,sb⟩ := qb.reads (n := 9) (by simp only [D.ok]; exact hok.1) (by decide)
  unfold D.toPy at rb sb
  have l1 := SeqAt.canLay_of_shaped sb
  have l2 := SeqAt.canLay_of_shaped sa
  have l3 := SeqAt.depth_of_shaped sa
  have l4 := Nat.min_le_right (PyData.depthAll (D.toPys l)) a.toPy.depth
  exact SeqAt.notIn_list_reads rb ra l1 l2 (by show A.units + 1 + _ < 9900; have := bud.un; omega) (h s.toks)
 ·rename_i l
  split at hc <;> (first | (injection hc; done) | (injection hc with hc; subst hc))
  rename_i hok
  simp only [Bool.and_eq_true] at hok
  obtain ⟨⟨as,ra⟩,sa⟩ := qa.reads hok.2 (by decide)
  obtain ⟨⟨bs,rb⟩,sb⟩ := qb.reads (n := 9) (by simp only [D.ok]; exact hok.1) (by decide)
  unfold D.toPy at rb sb
  have l1 := SeqAt.canLay_of_shaped sb
  have l2 := SeqAt.canLay_of_shaped sa
  have l3 := SeqAt.depth_of_shaped sa
  have l4 := Nat.min_le_right (PyData.depthAll (D.toPys l)) a.toPy.depth
  exact SeqAt.notIn_tuple_reads rb ra l1 l2 (by show A.units + 1 + _ < 9900; have := bud.un; omega) (h s.toks)
 ·split at hc <;> (first | (injection hc; done) | (injection hc with hc; subst hc))
  obtain ⟨t,rfl,_,_⟩ := qa.str_inv
  obtain ⟨u,rfl,_,_⟩ := qb.str_inv
  exact P.notIn_str (h s.toks)
 ·injection hc
theorem op_in : OpOK cx .in_ (op2 (compareOp .In)) := by
 intro n A F s vs ds r ok bud w q he
 exact ze5 w q he fun x y a b c qa qb hc Q E h => in_ok w bud qa qb hc h
theorem zhq : OpOK cx .notin (op2 (compareOp .NotIn)) := by
 intro n A F s vs ds r ok bud w q he
 refine ze5 w q he fun x y a b c qa qb hc Q E h => ?_
 obtain ⟨c',hc',rfl⟩ := Option.map_eq_some_iff.mp hc
 exact zkK w bud qa qb hc' h
theorem zhp {op : CmpOp} {f : Int → Int → Bool} {g : List Nat → List Nat → Bool} {vs : List Value} {ds : List D} {F : AP} {s : Shared} {A : Around} {r : R} (w : Wd cx F s) (q : BRepL cx F s.heap vs ds) (he : opCmp f g ds = some r)
  (h1 : ∀ a b t u (Q E : VP),Q (.bool (f a b)) s → wpAny (model cx.prog cx.w) A (compareOp op (.int a t) (.int b u)) Q E s)
  (h2 : ∀ a b t u (Q E : VP),Q (.bool (g a b)) s → wpAny (model cx.prog cx.w) A (compareOp op (.str ⟨a.toArray⟩ t) (.str ⟨b.toArray⟩ u)) Q E s) :
  Ev cx A F s (op2 (compareOp op) vs) r := by
 intro Q E hQ
 obtain ⟨a,b,rfl,he⟩ := zcN (show two (cmpD f g) ds = some r from he)
 obtain ⟨x,y,rfl,qa,qb⟩ := q.two
 cases a with
 | int a =>
  obtain ⟨b,e,he⟩ := Option.bind_eq_some_iff.mp he
  obtain rfl := zcB e
  (injection he with he; subst he)
  obtain ⟨t,rfl⟩ := qa.int_inv
  obtain ⟨u,rfl⟩ := qb.int_inv
  exact h1 _ _ _ _ _ _ (hQ _ F _ (Step.refl w) (.val (.bool _)))
 | str a =>
  obtain ⟨b,e,he⟩ := Option.bind_eq_some_iff.mp he
  obtain rfl := zbF e
  (injection he with he; subst he)
  obtain ⟨t,rfl,_,_⟩ := qa.str_inv
  obtain ⟨u,rfl,_,_⟩ := qb.str_inv
  exact h2 _ _ _ _ _ _ (hQ _ F _ (Step.refl w) (.val (.bool _)))
 | _ => injection he
theorem op_lt : OpOK cx .lt (op2 (compareOp .Lt)) := fun n A F s vs ds r ok bud w q he =>
 zhp w q he (fun _ _ _ _ _ _ h => P.lt_int h) fun _ _ _ _ _ _ h => P.lt_str h
theorem op_le : OpOK cx .le (op2 (compareOp .LtE)) := fun n A F s vs ds r ok bud w q he =>
 zhp w q he (fun _ _ _ _ _ _ h => P.le_int h) fun _ _ _ _ _ _ h => P.le_str h
theorem op_gt : OpOK cx .gt (op2 (compareOp .Gt)) := fun n A F s vs ds r ok bud w q he =>
 zhp w q he (fun _ _ _ _ _ _ h => P.gt_int h) fun _ _ _ _ _ _ h => P.gt_str h
theorem op_ge : OpOK cx .ge (op2 (compareOp .GtE)) := fun n A F s vs ds r ok bud w q he =>
 zhp w q he (fun _ _ _ _ _ _ h => P.ge_int h) fun _ _ _ _ _ _ h => P.ge_str h
end
end Mine
end
section
open PySem PySem.Calls PyProof.Rows PySem.Builtin.Str
namespace Mine
section
variable {cx : XCx}
theorem zdS {i : Int} (h : small i = true) : -1000000000 ≤ i ∧ i ≤ 1000000000 := by
 unfold small at h
 simpa [Bool.and_eq_true,decide_eq_true_eq] using h
theorem zkw (i : Int) (n : Nat) : place i n = seqIndex? i n := by
 rcases Int.lt_or_le i 0 with h | h
 ·have h0 : ¬ 0 ≤ i := by omega
  simp only [place,seqIndex?,if_neg h0,if_pos h]
  by_cases h2 : 0 ≤ i + n
  ·have h3 : i + n < n := by omega
   simp [h2,h3]
  ·simp [h2]
 ·have h0 : ¬ i < 0 := by omega
  simp only [place,seqIndex?,if_pos h,if_neg h0]
  by_cases h2 : i < n
  ·simp [h,h2]
  ·simp [h2]
theorem zea {α β : Type} {l : List α} {i : Int} {f : α → β} {r : β} (h : (match place i l.length with | some k => (l[k]?).map f | none => none) = some r) : ∃ k d,seqIndex? i l.length = some k ∧ l[k]? = some d ∧ f d = r := by
 cases e : place i l.length with
 | none => rw [e] at h; injection h
 | some k =>
  rw [e] at h
  obtain ⟨d,h1,h2⟩ := Option.map_eq_some_iff.mp h
  exact ⟨k,d,zkw i _ ▸ e,h1,h2⟩
theorem zjv {s : Shared} {A : Around} {l : Addr} {items : Array Value} {i : Int} {t : Tok} {j : Nat} {x : Value} {Q E : VP} (hl : s.heap.IsList l items) (h1 : -2 ^ 63 ≤ i) (h2 : i < 2 ^ 63) (hj : seqIndex? i items.size = some j) (hx : items[j]? = some x) (h : Q x s) :
  wpAny (model cx.prog cx.w) A (getItem (.ref l) (.int i t)) Q E s := by
 obtain ⟨hc,e⟩ := zce (show (if _ then some (if i < 0 then i + items.size else i).toNat else none) = some j from hj)
 by_cases h0 : i < 0
 ·rw [if_pos h0] at e hc
  have hc := of_decide_eq_true ((Bool.and_eq_true _ _).mp hc).1
  exact wpAny_getItem_list_neg hl h0 (Int.neg_le_of_neg_le (by omega)) h1 (by rw [e]; exact hx) h
 ·rw [if_neg h0] at e
  exact wpAny_getItem_list hl (Int.not_lt.mp h0) h2 (by rw [e]; exact hx) h
theorem zjA {F : AP} {s : Shared} {A : Around} {x y : Value} {a b : D} {r : R} (w : Wd cx F s) (qa : BRep cx F s.heap x a) (qb : BRep cx F s.heap y b) (he : opIndex [a,b] = some r) {Q E : VP}
  (hQ : ∀ v k,RepR cx F s.heap s.heap v r → Q v { s with toks := k }) : wpAny (model cx.prog cx.w) A (getItem x y) Q E s := by
 obtain ⟨i,e,he⟩ := Option.bind_eq_some_iff.mp (show (intD b).bind (fun i => if small i then idxD i a else none) = some r from he)
 obtain rfl := zcB e
 obtain ⟨u,rfl⟩ := qb.int_inv
 by_cases hs : small i = true
 ·replace he := (if_pos hs).symm.trans he
  obtain ⟨h1,h2⟩ := zdS hs
  have h1 : -2 ^ 63 ≤ i := Int.le_trans (by decide) h1
  have h2 : i < 2 ^ 63 := Int.lt_of_le_of_lt h2 (by decide)
  clear hs
  cases a with
  | str l =>
   obtain ⟨k,c,hk,hc,rfl⟩ := zea he
   obtain ⟨t,rfl,p,z⟩ := qa.str_inv
   refine P.getItem_str (c := c) (by rw [decide_eq_false (Int.not_lt.mpr h1),decide_eq_false (Int.not_le.mpr h2)]; rfl) ?_ (hQ _ _ (.val (Rep.str (l := [c]) _ (fun d hd => by rw [List.mem_singleton.mp hd]; exact p c (List.mem_of_getElem? hc)) (by show 1 ≤ lim; decide))))
   show (seqIndex? i l.toArray.size).bind _ = _
   rw [List.size_toArray,hk]
   exact (List.getElem?_toArray ..).trans hc
  | list l =>
   obtain ⟨k,d,hk,hc,rfl⟩ := zea he
   obtain ⟨a,ws,m,rfl,nx,g,z,ql⟩ := qa.list_inv w
   obtain ⟨v,hv,rv⟩ := ql.get hc
   exact zjv (zaI g) h1 h2 (by rw [List.size_toArray,ql.length]; exact hk) ((List.getElem?_toArray ..).trans hv) (hQ _ s.toks (.val rv))
  | tup l =>
   obtain ⟨k,d,hk,hc,rfl⟩ := zea he
   obtain ⟨a,ws,m,rfl,f,g,z,ql⟩ := qa.tup_inv
   obtain ⟨v,hv,rv⟩ := ql.get hc
   exact PyProof.Rows.getItem_tuple (zfy g) h1 h2 (by rw [List.size_toArray,ql.length]; exact hk) ((List.getElem?_toArray ..).trans hv) (hQ _ s.toks (.val rv))
  | _ => injection he
 ·injection (if_neg hs).symm.trans he
theorem zkD : OpOK cx .index (op2 getItem) := by
 intro n A F s vs ds r ok bud w q he Q E hQ
 obtain ⟨a,b,rfl,he⟩ := zcN (show opIndex ds = some r from he)
 obtain ⟨x,y,rfl,qa,qb⟩ := q.two
 exact zjA w qa qb he fun v k rv => hQ v F _ ((Step.refl w).toks k) rv
theorem zj6 (i : Int) (n : Nat) : clip i n = clipAt n i := by
 unfold clip clipAt
 by_cases h : i < 0
 ·rw [if_pos h,if_pos h,Int.min_eq_left (by have := Int.add_le_add_right (Int.le_of_lt h) (n : Int); rwa [Int.zero_add] at this)]
  rcases Int.le_total 0 (i + n) with q | q
  ·rw [Int.max_eq_right q]
  ·rw [Int.max_eq_left q,Int.toNat_of_nonpos q]; rfl
 ·rw [if_neg h,if_neg h]
  by_cases g : i < n
  ·rw [if_pos g,Int.min_eq_left (Int.le_of_lt g),Int.max_eq_right (Int.not_lt.mp h)]
  ·rw [if_neg g,Int.min_eq_right (Int.not_lt.mp g),Int.max_eq_right (Int.natCast_nonneg n)]; rfl
theorem zeb {F : AP} {h : Heap} {v : Value} {d : D} {o : Option Int} (q : BRep cx F h v d) (e : partD d = some o) : IsPart v o ∧ (∃ p : Option (Int × Tok),v = partValue p ∧ p.map (·.1) = o) := by
 cases d <;> try ((first | (injection e; done) | (injection e with e; subst e)); done)
 ·(injection e with e; subst e); rw [q.none_inv]; exact ⟨.none,none,rfl,rfl⟩
 ·rename_i i
  replace e : (if small i then some (some i) else none) = some o := e
  split at e <;> (first | (injection e; done) | (injection e with e; subst e))
  obtain ⟨t,rfl⟩ := q.int_inv
  exact ⟨.int _ t,some (_,t),rfl,rfl⟩
theorem zcF {d : D} {k n b : Nat} (h : bound d k n = some b) : ∃ o,partD d = some o ∧ b = o.elim k (clipAt n) := by
 cases d <;> try ((first | (injection h; done) | (injection h with h; subst h)); done)
 ·(injection h with h; subst h); exact ⟨none,rfl,rfl⟩
 ·rename_i i
  replace h : (if small i then some (clip i n) else none) = some b := h
  split at h <;> (first | (injection h; done) | (injection h with h; subst h))
  rename_i hi
  exact ⟨some i,if_pos hi,zj6 _ _⟩
theorem zdB (vs : List Value) (lo hi st : Option Int) : slicePick vs.toArray lo hi st = (pick vs lo hi st).toArray := by
 unfold slicePick pick
 simp only [List.size_toArray]
 have e : (fun a : Nat => vs.toArray[a]?) = fun a => vs[a]? := by funext a; simp
 rw [e]
theorem RepL.pick {T : NAd} {F : AP} {h : Heap} {vs : List Value} {ds : List D} (r : RepL T F h vs ds) (lo hi st : Option Int) : RepL T F h (pick vs lo hi st) (Mine.pick ds lo hi st) := by
 unfold Mine.pick
 rw [r.length]
 exact r.pickAt _
theorem zb2 {α : Type} (l : List α) (lo hi : Option Int) : pick l lo hi none = cut l (lo.elim 0 (clipAt l.length)) (hi.elim l.length (clipAt l.length)) := by
 unfold pick cut
 rw [sliceBounds_plain]
 simp only [sliceRange_one]
 have := pick_run l.toArray (lo.elim 0 (clipAt l.length)) (hi.elim l.length (clipAt l.length) - lo.elim 0 (clipAt l.length))
 simp only [List.getElem?_toArray] at this
 exact this
theorem zfb (l : List Nat) (lo hi : Option Int) : ((strSliceIndices lo hi 1 l.length).filterMap (l[·]?)) = pick l lo hi none := rfl
theorem zgN {α : Type} (l : List α) (lo hi : Option Int) : (pick l lo hi none).length ≤ l.length := by
 rw [zb2]; unfold cut
 exact Nat.le_trans (List.length_take_le' _ _) (by rw [List.length_drop]; exact Nat.sub_le _ _)
theorem zeW {F : AP} {s : Shared} {A : Around} {E : VP} {Q : VP} (ok : CxOk cx) (w : Wd cx F s) {a sl : Addr} {vs : List Value} {n : Nat} {l : List D} {vl vu vst : Value} {lo hi st : Option Int}
  (g : s.heap.get? a = some (lobj vs.toArray n)) (z : vs.length ≤ lim) (q : RepL cx.T F s.heap vs l) (hs : s.heap.IsSliceOf sl vl vu vst) (pl : IsPart vl lo) (pu : IsPart vu hi) (ps : IsPart vst st) (h0 : st ≠ some 0)
  (hQ : Post cx F s (.own (pick l lo hi st)) Q) : wpAny (model cx.prog cx.w) A (getItem (.ref a) (.ref sl)) Q E s := by
 refine wpAny_getItem_list_slice (zaI g) hs pl pu ps h0 ?_ (by rw [List.size_toArray]; exact zaB z)
 have hsz : (pick vs lo hi st).length ≤ lim := by
  have := slicePick_size_le vs.toArray lo hi st
  rw [zdB,List.size_toArray,List.size_toArray] at this
  exact Nat.le_trans this z
 rw [zdB]
 refine hQ _ F _ (Step.push ok w _ _) (.pushOwn w hsz (q.pick lo hi st))
theorem zj7 (n : Nat) (i : Int) : clipAt n i ≤ n := by
 rw [← zj6]
 unfold clip
 by_cases h : i < 0
 ·rw [if_pos h]
  exact Int.toNat_le.mpr (by have := Int.add_le_add_right (Int.le_of_lt h) (n : Int); rwa [Int.zero_add] at this)
 ·rw [if_neg h]
  by_cases g : i < n
  ·rw [if_pos g]; exact Int.toNat_le.mpr (Int.le_of_lt g)
  ·rw [if_neg g]; exact Nat.le_refl _
theorem zkj {a b n : Nat} (h2 : b - a = n) (hb : b ≤ n) (h : 0 < n) : a = 0 := by omega
theorem ziN {F : AP} {s : Shared} {A : Around} {E : VP} {Q : VP} (w : Wd cx F s) {sl : Addr} {l : List Nat} {t : Tok} {pl pu : Option (Int × Tok)}
  (p : ∀ c ∈ l,c < 0x110000) (z : l.length ≤ lim) (hs : s.heap.IsSlice sl pl pu none) (hQ : Post cx F s (.val (.str (pick l (pl.map (·.1)) (pu.map (·.1)) none))) Q) :
  wpAny (model cx.prog cx.w) A (getItem (.str ⟨l.toArray⟩ t) (.ref sl)) Q E s := by
 refine wpAny_getItem_str_slice hs (by rfl) ?_
 have hsz := zgN l (pl.map (·.1)) (pu.map (·.1))
 have hp : ∀ c ∈ pick l (pl.map (·.1)) (pu.map (·.1)) none,c < 0x110000 := fun c hc => by
  rw [zb2] at hc; unfold cut at hc
  exact p c (List.mem_of_mem_drop (List.mem_of_mem_take hc))
 have e0 : slicePicked ⟨l.toArray⟩ pl pu none = strSliceIndices (pl.map (·.1)) (pu.map (·.1)) 1 l.length := by
  unfold slicePicked
  show strSliceIndices _ _ 1 (l.toArray.size) = _
  rw [List.size_toArray]
 have e1 : ((slicePicked ⟨l.toArray⟩ pl pu none).filterMap ((PySem.Str.mk l.toArray).cps[·]?)) = pick l (pl.map (·.1)) (pu.map (·.1)) none := by
  rw [e0, ← zfb]
  have e : (fun a : Nat => (PySem.Str.mk l.toArray).cps[a]?) = fun a => l[a]? := by funext a; simp
  rw [e]
 unfold sliceMade
 rw [e1]
 by_cases hc : ((((none : Option (Int × Tok)).map (·.1)).getD 1 == 1 && (slicePicked ⟨l.toArray⟩ pl pu none).length == (PySem.Str.mk l.toArray).length) = true)
 ·rw [if_pos hc]
  simp only [Bool.and_eq_true,beq_iff_eq] at hc
  have h2 := hc.2
  rw [e0] at h2
  have e3 : strSliceIndices (pl.map (·.1)) (pu.map (·.1)) 1 l.length = sliceRange (sliceBounds (pl.map (·.1)) (pu.map (·.1)) none l.length).1 (sliceBounds (pl.map (·.1)) (pu.map (·.1)) none l.length).2.1 (sliceBounds (pl.map (·.1)) (pu.map (·.1)) none l.length).2.2 := rfl
  rw [e3,sliceBounds_plain,sliceRange_one,List.length_map,List.length_range] at h2
  have h3 : (PySem.Str.mk l.toArray).length = l.length := by show l.toArray.size = _; rw [List.size_toArray]
  rw [h3] at h2
  have hb : (pu.map (·.1)).elim l.length (clipAt l.length) ≤ l.length := by
   cases (pu.map (·.1)) with
   | none => exact Nat.le_refl _
   | some i => exact zj7 _ _
  have : pick l (pl.map (·.1)) (pu.map (·.1)) none = l := by
   rw [zb2]
   unfold cut
   rcases Nat.eq_zero_or_pos l.length with h | h
   ·rw [List.length_eq_zero_iff.mp h]; simp
   ·have e2 : (pl.map (·.1)).elim 0 (clipAt l.length) = 0 := zkj h2 hb h
    rw [e2] at h2
    rw [e2,List.drop_zero,List.take_of_length_le (Nat.le_of_eq h2.symm)]
  rw [this] at hQ
  exact hQ _ F _ (Step.refl w) (.val (.str t p z))
 ·rw [if_neg hc]
  exact ⟨Nat.le_trans (by show (List.toArray _).size ≤ l.length; rw [List.size_toArray]; exact hsz) (zaB z),hQ _ F _ ((Step.refl w).toks _) (.val (.str _ hp (Nat.le_trans hsz z)))⟩
end
section
variable {cx : XCx} {ε : Sc}
theorem zci (slice : Expr) (o i : Value) : ∃ ops,subscripted slice false o i = operate ops (getItem o i) := by
 cases slice with
 | Slice l u st p => cases st <;> exact ⟨_,rfl⟩
 | _ => exact ⟨_,rfl⟩
noncomputable def seqD : D → Bool
 | .str _ | .list _ | .tup _ => true
 | _ => false
theorem ze9 {F : AP} {s : Shared} {A : Around} {value slice : Expr} {o i : Value} {d : D} {Q E : VP} (w : Wd cx F s) (q : BRep cx F s.heap o d) (hd : seqD d = true)
  (h : wpAny (model cx.prog cx.w) A (getItem o i) Q E s) : wpAny (model cx.prog cx.w) A (subscriptTail value slice o i) Q E s := by
 obtain ⟨ops,hs⟩ := zci slice o i
 cases d with
 | str l =>
  obtain ⟨t,rfl,_,_⟩ := q.str_inv
  exact tail_any (typeIs_str s _ _) PySem.F.slot_str_getitem.lookup h hs
 | list l =>
  obtain ⟨a,vs,n,rfl,nx,g,z,_⟩ := q.list_inv w
  exact tail_any (T := "list") ⟨_,g,rfl⟩ list_getitem_lookup h hs
 | tup l =>
  obtain ⟨a,vs,n,rfl,f,g,z,_⟩ := q.tup_inv
  exact tail_any (T := "tuple") ⟨_,g,rfl⟩ PySem.F.slot_tuple_getitem.lookup h hs
 | _ => injection hd
theorem zhY {d e : D} {r : R} (h : opIndex [d,e] = some r) : seqD d = true := by
 obtain ⟨i,_,h⟩ := Option.bind_eq_some_iff.mp (show (intD e).bind (fun i => if small i then idxD i d else none) = some r from h)
 by_cases hs : small i = true
 ·replace h := (if_pos hs).symm.trans h
  cases d <;> first | rfl | (injection h; done)
 ·injection (if_neg hs).symm.trans h
theorem zaf {v i : Expr} {pos : Pos} {xv xi : X} (hv : Sound cx ε v xv) (hi : Sound cx ε i xi) : Sound cx ε (.Subscript v i pos) (.op .index (.cons xv (.cons xi .nil))) := by
 refine Sound.ofE ?_ fun _ => rfl
 intro n cf A env F s ρ ad m cm H res he Q E hQ
 obtain ⟨rs,h1,h2⟩ := ev_op he
 obtain ⟨ra,xs,ha,h3,rfl⟩ := zay h1
 obtain ⟨rb,ys,hb,h4,rfl⟩ := zay h3
 obtain rfl := zbU h4
 refine Subscript_ ?_
 refine hv.ev n cf A env F s ρ ad m cm H ra ha _ _ fun a F' s' st qa => ?_
 refine hi.ev n cf A env F' s' ρ ad m cm (H.step st) rb hb _ _ fun b F'' s'' st' qb => ?_
 have qa' := st'.brep st.wd qa.brep
 refine ze9 st'.wd qa' (zhY h2) ?_
 exact zkD n A F'' s'' [a,b] _ res H.ok H.bud st'.wd (.cons qa' (.cons qb.brep .nil)) h2 _ _ (hQ.after (st.trans st'))
inductive SoundO (cx : XCx) (ε : Sc) : Option Expr → X → Prop
 | no : SoundO cx ε none (.const .none)
 | yes {e : Expr} {x : X} : Sound cx ε e x → SoundO cx ε (some e) x
theorem SoundO.run {o : Option Expr} {x : X} (h : SoundO cx ε o x) {n cf A env F s ρ ad m cm} (H : Here cx ε n cf A env F s ρ ad m cm) {r : R} (hr : ev cf x ρ = some [r]) : Ev cx A F s (evalPart o env) r := by
 cases h with
 | no => replace hr := (zaF _).symm.trans hr; (injection hr with hr; injection hr with hr z; clear z; subst hr); exact Ev.here H.wd (.val .none)
 | yes h => exact h.ev n cf A env F s ρ ad m cm H r hr
theorem zdz {F : AP} {h : Heap} {v : Value} {d : D} {o : Option Int} (q : BRep cx F h v d) (e : partD d = some o) : ∃ p : Option (Int × Tok),v = partValue p ∧ p.map (·.1) = o := (zeb q e).2
theorem zaj {v : Expr} {l u : Option Expr} {p pos : Pos} {xv xl xu : X} (hv : Sound cx ε v xv) (hl : SoundO cx ε l xl) (hu : SoundO cx ε u xu) :
  Sound cx ε (.Subscript v (.Slice l u none p) pos) (.op .slice (.cons xv (.cons xl (.cons xu .nil)))) := by
 refine Sound.ofE ?_ fun _ => rfl
 intro n cf A env F s ρ ad m cm H res he Q E hQ
 obtain ⟨rs,h1,h2⟩ := ev_op he
 obtain ⟨ra,xs,ha,h3,rfl⟩ := zay h1
 obtain ⟨rb,ys,hb,h4,rfl⟩ := zay h3
 obtain ⟨rc,zs,hc,h5,rfl⟩ := zay h4
 obtain rfl := zbU h5
 refine Subscript_ ?_
 refine hv.ev n cf A env F s ρ ad m cm H ra ha _ _ fun a F' s' st qa => ?_
 refine wpAny_Slice ?_
 refine hl.run (H.step st) hb _ _ fun vl F1 s1 st1 ql => ?_
 refine hu.run ((H.step st).step st1) hc _ _ fun vu F2 s2 st2 qu => ?_
 refine wpAny_pure ?_
 have st3 := (st.trans st1).trans st2
 have st4 := Step.push H.ok st3.wd { cls := .type "slice",data := .fields #[vl,vu,.none] } s2.toks
 have qa' := st4.brep st3.wd ((st1.trans st2).brep st.wd qa.brep)
 have ql' := st4.brep st3.wd (st2.brep st1.wd ql.brep)
 have qu' := st4.brep st3.wd qu.brep
 have hs := Heap.IsSliceOf.new s2.heap vl vu .none
 replace h2 : opSlice [ra.ds,rb.ds,rc.ds] = some res := h2
 cases hx : ra.ds <;> rw [hx] at h2 <;> try (injection h2; done)
 ·rename_i x
  rw [hx] at qa'
  replace h2 : (match bound rb.ds 0 x.length,bound rc.ds x.length x.length with | some lo,some hi => some (R.val (.str (cut x lo hi))) | _,_ => none) = some res := h2
  split at h2
  ·rename_i lo hi hlo hhi
   (injection h2 with h2; subst h2)
   obtain ⟨t,rfl,pp,z⟩ := qa'.str_inv
   refine ze9 st4.wd qa' rfl ?_
   obtain ⟨ol,hol,rfl⟩ := zcF hlo
   obtain ⟨ou,hou,rfl⟩ := zcF hhi
   obtain ⟨pl,rfl,e4⟩ := zdz ql' hol
   obtain ⟨pu,rfl,e5⟩ := zdz qu' hou
   refine ziN st4.wd (pl := pl) (pu := pu) pp z ?_ ?_
   ·obtain ⟨o,h1,h2,h3⟩ := hs; exact ⟨o,h1,h2,h3⟩
   ·rw [e4,e5,zb2]; exact hQ.after (st3.trans st4)
  ·injection h2
 ·rename_i x
  rw [hx] at qa'
  replace h2 : (match bound rb.ds 0 x.length,bound rc.ds x.length x.length with | some lo,some hi => some (R.own (cut x lo hi)) | _,_ => none) = some res := h2
  split at h2
  ·rename_i lo hi hlo hhi
   (injection h2 with h2; subst h2)
   obtain ⟨al,vs,k,rfl,nx,g,z,q⟩ := qa'.list_inv st4.wd
   refine ze9 st4.wd qa' rfl ?_
   obtain ⟨ol,hol,rfl⟩ := zcF hlo
   obtain ⟨ou,hou,rfl⟩ := zcF hhi
   refine zeW H.ok st4.wd g z q hs (zeb ql' hol).1 (zeb qu' hou).1 .none (by intro e; injection e) ?_
   rw [zb2]; exact hQ.after (st3.trans st4)
  ·injection h2
theorem zfS {v st : Expr} {l u : Option Expr} {p pos : Pos} {xv xl xu xs : X} (hv : Sound cx ε v xv) (hl : SoundO cx ε l xl) (hu : SoundO cx ε u xu) (hst : Sound cx ε st xs) :
  Sound cx ε (.Subscript v (.Slice l u (some st) p) pos) (.op .slice3 (.cons xv (.cons xl (.cons xu (.cons xs .nil))))) := by
 refine Sound.ofE ?_ fun _ => rfl
 intro n cf A env F s ρ ad m cm H res he Q E hQ
 obtain ⟨rs,h1,h2⟩ := ev_op he
 obtain ⟨ra,xs',ha,h3,rfl⟩ := zay h1
 obtain ⟨rb,ys,hb,h4,rfl⟩ := zay h3
 obtain ⟨rc,zs,hc,h5,rfl⟩ := zay h4
 obtain ⟨rd,ws,hd,h6,rfl⟩ := zay h5
 obtain rfl := zbU h6
 refine Subscript_ ?_
 refine hv.ev n cf A env F s ρ ad m cm H ra ha _ _ fun a F' s' st qa => ?_
 refine wpAny_Slice ?_
 refine hl.run (H.step st) hb _ _ fun vl F1 s1 st1 ql => ?_
 refine hu.run ((H.step st).step st1) hc _ _ fun vu F2 s2 st2 qu => ?_
 have st3 := (st.trans st1).trans st2
 refine hst.ev n cf A env F2 s2 ρ ad m cm (H.step st3) rd hd _ _ fun vs F3 s3 st5 qs => ?_
 have st6 := st3.trans st5
 have st4 := Step.push H.ok st6.wd { cls := .type "slice",data := .fields #[vl,vu,vs] } s3.toks
 have qa' := st4.brep st6.wd (((st1.trans st2).trans st5).brep st.wd qa.brep)
 have ql' := st4.brep st6.wd ((st2.trans st5).brep st1.wd ql.brep)
 have qu' := st4.brep st6.wd (st5.brep st3.wd qu.brep)
 have qs' := st4.brep st6.wd qs.brep
 have hs := Heap.IsSliceOf.new s3.heap vl vu vs
 replace h2 : opSlice3 [ra.ds,rb.ds,rc.ds,rd.ds] = some res := h2
 cases hx : ra.ds <;> rw [hx] at h2 <;> try (injection h2; done)
 cases hy : rd.ds <;> rw [hy] at h2 <;> try (injection h2; done)
 ·rename_i x k
  rw [hx] at qa'; rw [hy] at qs'
  replace h2 : (match partD rb.ds,partD rc.ds with | some lo,some hi => if k ≠ 0 ∧ small k then some (R.own (pick x lo hi (some k))) else none | _,_ => none) = some res := h2
  split at h2
  ·rename_i lo hi hlo hhi
   split at h2 <;> (first | (injection h2; done) | (injection h2 with h2; subst h2))
   rename_i hk
   obtain ⟨al,vs',k',rfl,nx,g,z,q⟩ := qa'.list_inv st4.wd
   refine ze9 st4.wd qa' rfl ?_
   obtain ⟨t,rfl⟩ := qs'.int_inv
   exact zeW H.ok st4.wd g z q hs (zeb ql' hlo).1 (zeb qu' hhi).1 (.int _ _) (by intro e; (injection e with e; subst e); exact hk.1 rfl) (hQ.after (st6.trans st4))
  ·injection h2
end
noncomputable def starred : Expr → Bool
 | .Starred _ _ => true
 | _ => false
theorem zao {e : Expr} {rest : List Expr} {env : Env} (h : starred e = false) : starEach (e :: rest) env = (false,eval e env) :: starEach rest env := by
 cases e <;> first | rfl | injection h
theorem zav {pos : Pos} {t : Sem Value} {r : List (Bool × Sem Value)} : backTo pos ((false,t) :: r) = (false,t) :: backTo pos r := by
 simp [backTo]
section
variable {cx : XCx} {ε : Sc}
inductive RepRL (cx : XCx) (F : AP) (lo h : Heap) : List Value → List R → Prop
 | nil : RepRL cx F lo h [] []
 | cons {v : Value} {vs : List Value} {r : R} {rs : List R} : RepR cx F lo h v r → RepRL cx F lo h vs rs → RepRL cx F lo h (v :: vs) (r :: rs)
theorem RepRL.brep {F : AP} {lo h : Heap} {vs : List Value} {rs : List R} (q : RepRL cx F lo h vs rs) : BRepL cx F h vs (rs.map R.ds) := by
 induction q with
 | nil => exact .nil
 | cons a _ ih => exact .cons a.brep ih
theorem RepRL.low {F F' F'' : AP} {s s' : Shared} {h : Heap} {vs : List Value} {rs : List R} (x : Step cx F s F' s') (q : RepRL cx F'' s'.heap h vs rs) : RepRL cx F'' s.heap h vs rs := by
 induction q with
 | nil => exact .nil
 | cons a _ ih => exact .cons (a.low x) ih
theorem RepRL.vals {F : AP} {lo h : Heap} {vs : List Value} {l : List D} (q : RepL cx.T F h vs l) : RepRL cx F lo h vs (l.map .val) := by
 induction vs generalizing l with
 | nil => cases q; exact .nil
 | cons v vs ih => cases q with | cons a b => exact .cons (.val a) (ih b)
theorem zgc (ok : CxOk cx) {F : AP} {s : Shared} (w : Wd cx F s) : ∀ {vs : List Value} {rs : List R} {ds : List D} {F' : AP} {s' : Shared} {F₁ : AP},Step cx F s F₁ s' → (∀ a,F' a → F₁ a) → RepRL cx F' s.heap s'.heap vs rs → fzAll rs = some ds →
  ∃ F'',Step cx F s F'' s' ∧ (∀ a,F₁ a → F'' a) ∧ RepL cx.T F'' s'.heap vs ds := by
 intro vs rs ds F' s' F₁ x hF q e
 induction q generalizing ds F₁ with
 | nil => (injection e with e; subst e); exact ⟨F₁,x,fun _ h => h,.nil⟩
 | @cons v vs r rs a b ih =>
  unfold fzAll at e
  split at e
  ·rename_i d ds' e1 e2
   (injection e with e; subst e)
   cases a with
   | val a =>
    cases e1
    obtain ⟨F'',y,hs,q⟩ := ih x hF e2
    exact ⟨F'',y,hs,.cons (a.mono (fun c h => hs c (hF c h)) fun _ _ _ e => e) q⟩
   | own l nf nx g z a =>
    (injection e1 with e1; subst e1)
    obtain ⟨F'',y,hs,q⟩ := ih (x.freeze ok w l g) (fun c h => .inl (hF c h)) e2
    exact ⟨F'',y,fun c h => hs c (.inl h),.cons (.list (hs _ (.inr rfl)) g z (a.mono (fun c h => hs c (.inl (hF c h))) fun _ _ _ e => e)) q⟩
   | bor _ _ _ _ => injection e1
  ·injection e
inductive SoundL (cx : XCx) (ε : Sc) : List Expr → X → Bool → Prop
 | nil : SoundL cx ε [] .nil false
 | cons {e : Expr} {x : X} {es : List Expr} {y : X} {st : Bool} : Sound cx ε e x → starred e = false → SoundL cx ε es y st → SoundL cx ε (e :: es) (.cons x y) st
 | star {e : Expr} {x : X} {p : Pos} : Sound cx ε e x → SoundL cx ε [.Starred e p] (.star x) true
theorem zio {F : AP} {s : Shared} {A : Around} {E : VP} {Q : List Value → Shared → Prop} (ok : CxOk cx) (w : Wd cx F s) {v : Value} {r : R} {d : D} {l : List D} {lo : Heap} (q : RepR cx F lo s.heap v r) (e : r.fz = some d)
  (hl : d = .list l ∨ d = .tup l)
  (h : ∀ vs s',RepL cx.T F s'.heap vs l → vs.length ≤ lim → Step cx F s F s' → Q vs s') : PySem.W.StarOf (model cx.prog cx.w) A E v Q s := by
 have key : ∃ (a : Addr) (o : Obj) (T : String) (vs : List Value) (n : Nat),v = .ref a ∧ s.heap.get? a = some o ∧ o.cls = .type T ∧ o.data = .seq vs.toArray n ∧ (T = "list" ∨ T = "tuple") ∧ vs.length ≤ lim ∧ RepL cx.T F s.heap vs l := by
  cases q with
  | val q =>
   cases e
   rcases hl with rfl | rfl
   ·cases q with | list f g z q => exact ⟨_,_, "list",_,_,rfl,g,rfl,rfl,.inl rfl,z,q⟩
   ·cases q with | tup f g z q => exact ⟨_,_, "tuple",_,_,rfl,g,rfl,rfl,.inr rfl,z,q⟩
  | own l nf nx g z q =>
   (injection e with e; subst e)
   rcases hl with h | h <;> (first | (injection h; done) | (injection h with h; subst h))
   exact ⟨_,_, "list",_,_,rfl,g,rfl,rfl,.inl rfl,z,q⟩
  | bor _ _ _ _ => injection e
 obtain ⟨a,o,T,vs,n,rfl,g,hc,hd,hT,z,q⟩ := key
 have hT' : s.TypeIs (.ref a) T := ⟨o,g,hc⟩
 have c : wpAny (model cx.prog cx.w) A (collect (.ref a)) Q E s := by
  refine wpAny_collect_seq a hT g hc hd (fun h' hk => ?_) (by rw [List.size_toArray]; exact zaB z)
  exact h vs { s with heap := h' } (q.mono (fun _ h => h) fun a o _ e => hk a o e) z (Step.grown ok w s.toks hk)
 unfold PySem.W.StarOf notIterableAtAll
 rcases hT with rfl | rfl
 ·exact wb (wpAny_specialOf hT' PySem.F.slot_list_iter.lookup (wpAny_pure ⟨rfl,c⟩))
 ·exact wb (wpAny_specialOf hT' PySem.F.slot_tuple_iter.lookup (wpAny_pure ⟨rfl,c⟩))
theorem ev_star {cf : CfT} {ρ : List Slot} {a : X} {rs : List R} (h : ev cf (.star a) ρ = some rs) : ∃ x d l,ev cf a ρ = some [x] ∧ x.fz = some d ∧ (d = .list l ∨ d = .tup l) ∧ rs = l.map .val := by
 replace h := (zbk _).symm.trans h
 split at h
 ·rename_i x e
  split at h
  ·rename_i l e'; (injection h with h; subst h); exact ⟨x,_,l,e,e',.inl rfl,rfl⟩
  ·rename_i l e'; (injection h with h; subst h); exact ⟨x,_,l,e,e',.inr rfl,rfl⟩
  ·injection h
 ·injection h
theorem zhm {n cf A env F s ρ ad m cm} (H : Here cx ε n cf A env F s ρ ad m cm) {e : Expr} {x : X} (h : Sound cx ε e x) {rs : List R} (hr : ev cf (.star x) ρ = some rs) {Q : List Value → Shared → Prop} {E : VP}
  (hQ : ∀ vs F' s',Step cx F s F' s' → RepRL cx F' s.heap s'.heap vs rs → vs.length ≤ lim → Q vs s') : wpAny (model cx.prog cx.w) A (eval e env) (fun v s₁ => PySem.W.StarOf (model cx.prog cx.w) A E v Q s₁) E s := by
 obtain ⟨r,d,l,e1,e2,e3,rfl⟩ := ev_star hr
 refine h.ev n cf A env F s ρ ad m cm H r e1 _ _ fun v F' s' st q => ?_
 obtain ⟨F'',st',hs,rd⟩ := st.fz H.ok H.wd q e2
 have q' : RepR cx F'' s.heap s'.heap v (.val d) := .val rd
 exact zio H.ok st'.wd q' rfl e3 fun vs s'' ql z st'' => hQ vs F'' s'' (st'.trans st'') (RepRL.vals ql) z
theorem SoundL.run {es : List Expr} {x : X} {b : Bool} (h : SoundL cx ε es x b) {n cf A env} {pos : Pos} :
  ∀ F s ρ ad m cm,Here cx ε n cf A env F s ρ ad m cm → ∀ rs,ev cf x ρ = some rs → ∀ (Q : List Value → Shared → Prop) (E : VP),
   (∀ vs F' s',Step cx F s F' s' → RepRL cx F' s.heap s'.heap vs rs → Q vs s') → wpAny (model cx.prog cx.w) A (spliced (backTo pos (starEach es env))) Q E s := by
 induction h with
 | nil =>
  intro F s ρ ad m cm H rs hr Q E hQ
  obtain rfl := zbU hr
  exact Calls.spliced_nil (hQ [] F s (Step.refl H.wd) .nil)
 | @cons e x es y st h1 hs h2 ih =>
  intro F s ρ ad m cm H rs hr Q E hQ
  obtain ⟨r,rs',e1,e2,rfl⟩ := zay hr
  rw [zao hs,zav]
  refine Calls.spliced_cons ?_
  refine h1.ev n cf A env F s ρ ad m cm H r e1 _ _ fun v F' s' st q => ?_
  refine ih F' s' ρ ad m cm (H.step st) rs' e2 _ _ fun vs F'' s'' st' qs => ?_
  exact hQ _ F'' s'' (st.trans st') (.cons (q.step st' st.wd) (qs.low st))
 | @star e x p h1 =>
  intro F s ρ ad m cm H rs hr Q E hQ
  refine PySem.W.ks_spliced (rest := []) (zhm H h1 hr fun vs F' s' st q z => ?_)
  exact Calls.spliced_nil (by rw [List.append_nil]; exact hQ vs F' s' st q)
theorem zap {es : List Expr} {x : X} {b : Bool} {pos : Pos} (h : SoundL cx ε es x b) : Sound cx ε (.List es pos) (.list x) := by
 refine Sound.ofE ?_ fun _ => rfl
 intro n cf A env F s ρ ad m cm H res he Q E hQ
 replace he := (zbz _).symm.trans he
 split at he
 ·rename_i rs e1
  split at he
  ·rename_i ds e2
   split at he <;> cases he
   rename_i hz
   show wpAny _ _ (do standAt pos; newList (← spliced (backTo pos (starEach es env)))) Q E s
   refine wb (wpAny_standAt (wb ?_))
   refine h.run F s ρ ad m cm H rs e1 _ _ fun vs F' s' st q => ?_
   obtain ⟨F'',st',_,q'⟩ := zgc H.ok H.wd st (fun _ h => h) q e2
   have z : vs.length ≤ lim := by rw [q'.length]; exact hz
   refine wpAny_newList ?_ (zaB z)
   exact hQ _ F'' _ (st'.trans (Step.push H.ok st'.wd _ _)) ((RepR.pushOwn st'.wd z q').low st')
  ·injection he
 ·injection he
theorem zfl {F : AP} {s : Shared} (ok : CxOk cx) (w : Wd cx F s) {vs : List Value} {l : List D} (k : Nat) (z : vs.length ≤ lim) (q : RepL cx.T F s.heap vs l) :
  ∃ F',Step cx F s F' { s with heap := s.heap.push (tobj vs.toArray 0),toks := k } ∧ Rep cx.T F' (s.heap.push (tobj vs.toArray 0)) (.ref s.heap.objs.size) (.tup l) := by
 have st := Step.push ok w (tobj vs.toArray 0) k
 have g : (s.heap.push (tobj vs.toArray 0)).get? s.heap.objs.size = some (tobj vs.toArray 0) := Heap.get?_push_size _ rfl
 exact ⟨_,st.freeze ok w (zaz _) g,.tup (.inr rfl) g z ((st.repL w q).mono (fun _ h => .inl h) fun _ _ _ e => e)⟩
theorem zar {es : List Expr} {x : X} {b : Bool} {k : Nat} {pos : Pos} (h : SoundL cx ε es x b) : Sound cx ε (.Tuple es k pos) (.tup x) := by
 refine Sound.ofE ?_ fun _ => rfl
 intro n cf A env F s ρ ad m cm H res he Q E hQ
 replace he := (zbY _).symm.trans he
 split at he
 ·rename_i rs e1
  split at he
  ·rename_i ds e2
   split at he <;> cases he
   rename_i hz
   show wpAny _ _ (do standAt pos; newTuple (← spliced (backTo pos (starEach es env)))) Q E s
   refine wb (wpAny_standAt (wb ?_))
   refine h.run F s ρ ad m cm H rs e1 _ _ fun vs F' s' st q => ?_
   obtain ⟨F'',st',_,q'⟩ := zgc H.ok H.wd st (fun _ h => h) q e2
   have z : vs.length ≤ lim := by rw [q'.length]; exact hz
   refine wpAny_newTuple ?_ (zaB z)
   obtain ⟨F3,st3,r⟩ := zfl H.ok st'.wd s'.toks z q'
   exact hQ _ F3 _ (st'.trans st3) (.val r)
  ·injection he
 ·injection he
theorem zaK {es : List Expr} {x : X} {b : Bool} {pos : Pos} {env : Env} (h : SoundL cx ε es x b) : (backTo pos (starEach es env)).any (·.1) = b := by
 induction h with
 | nil => rfl
 | cons h1 hs h2 ih => rw [zao hs,zav,List.any_cons]; simpa using ih
 | star h => rfl
theorem za2 {es : List Expr} {x : X} {b : Bool} {pos : Pos} (h : SoundL cx ε es x b) {n cf A env F s ρ ad m cm} (H : Here cx ε n cf A env F s ρ ad m cm) {rs : List R} (hr : ev cf x ρ = some rs) {f : Value} {Q : Args → Shared → Prop} {E : VP}
  (hQ : ∀ vs F' s',Step cx F s F' s' → RepRL cx F' s.heap s'.heap vs rs → Q ⟨vs,[]⟩ s') : wpAny (model cx.prog cx.w) A (evalArgs f true (backTo pos (starEach es env)) []) Q E s := by
 cases h with
 | nil =>
  obtain rfl := zbU hr
  exact PySem.evalArgs_none (hQ [] F s (Step.refl H.wd) .nil)
 | @cons e x es y b h1 hs h2 =>
  have := (SoundL.cons h1 hs h2).run (pos := pos) F s ρ ad m cm H rs hr
  rw [zao hs,zav] at this ⊢
  exact Calls.evalArgs_plain (this _ _ hQ)
 | star h1 =>
  exact PySem.W.ks_lone (zhm H h1 hr fun vs F' s' st q _ => hQ vs F' s' st q)
theorem zbO {n cf A env F s ρ ad m cm} (H : Here cx ε n cf A env F s ρ ad m cm) {x : Str} {pos : Pos} {v : Value} (hk : ε.kinds.lookup x = some .globalImplicit) (hv : cx.mg x = some v) (hd : (x == ("__debug__" : Str)) = false)
  {Q E : VP} (h : Q v s) : wpAny (model cx.prog cx.w) A (eval (.Name x pos) env) Q E s :=
 Calls.Name_function_global H.env.kind (by unfold Env.kindOf; rw [H.env.names]; exact hk) (Calls.loadGlobal_global (H.env.glob ▸ H.wd.glob H.ok) hv h) hd
theorem zaS {n cf A env F s ρ ad m cm} (H : Here cx ε n cf A env F s ρ ad m cm) {x : Str} {pos : Pos} {v : Value} (hk : ε.kinds.lookup x = some .globalImplicit) (hg : cx.mg x = none) (hn : x ≠ "__name__") (hv : bootBuiltins x = some v) (hd : (x == ("__debug__" : Str)) = false)
  {Q E : VP} (h : Q v s) : wpAny (model cx.prog cx.w) A (eval (.Name x pos) env) Q E s :=
 Calls.Name_function_global H.env.kind (by unfold Env.kindOf; rw [H.env.names]; exact hk) (Calls.loadGlobal_builtin (H.env.glob ▸ H.wd.glob H.ok) hg (H.env.blt ▸ H.wd.blt H.ok) ((H.ok.bmb x hn).trans hv) h) hd
theorem zaw {f : Expr} {args : List Expr} {pos : Pos} {env : Env} (hf : ∀ o n p,f ≠ .Attribute o n p) : eval (.Call f args [] pos) env = (do callWith pos (← eval f env) [] (backTo pos (starEach args env)) []) := by
 cases f <;> first | rfl | exact absurd rfl (hf _ _ _)
theorem zak {f : Str} {i : Nat} {p pos : Pos} {es : List Expr} {x : X} {b : Bool} (hk : ε.kinds.lookup f = some .globalImplicit) (hv : cx.mg f = some (.ref (cx.fa i))) (hd : (f == ("__debug__" : Str)) = false) (h : SoundL cx ε es x b) :
  Sound cx ε (.Call (.Name f p) es [] pos) (.call i x) := by
 refine Sound.ofE ?_ fun _ => rfl
 intro n cf A env F s ρ ad m cm H res he Q E hQ
 replace he := (za8 _).symm.trans he
 split at he
 ·rename_i rs e1
  split at he
  ·rename_i ds e2
   obtain ⟨d,e3,e4⟩ := Option.map_eq_some_iff.mp he
   (injection e4 with e4 z; injection z; subst e4)
   rw [zaw (by intro _ _ _ e; injection e)]
   obtain ⟨⟨o,fd,g,hfd,nx⟩,hcall⟩ := H.calls.call i ds d e3
   refine wb (zbO H hk hv hd ?_)
   refine Calls.callWith_function (o := o) (fd := fd) (za2 h H e1 fun vs F' s' st q => ?_)
   obtain ⟨F'',st',_,q'⟩ := zgc H.ok H.wd st (fun _ h => h) q e2
   refine ⟨⟨st'.wd.base _ _ g nx,hfd⟩, ?_⟩
   show wpAny _ _ (call (.ref (cx.fa i)) vs) Q E s'
   refine wpAny_call (hcall A F'' s' vs H.bud.toBud st'.wd q' _ fun v F3 s3 st3 r => ?_)
   exact hQ v F3 s3 (st'.trans st3) (.val r)
  ·injection he
 ·injection he
inductive Callee : Value → Prop
 | builtin (id : String) : Callee (.builtin id)
 | type (T : String) : Callee (.type T)
theorem zan {f : Str} {c : Value} {o : Op} {p pos : Pos} {es : List Expr} {x : X} (hk : ε.kinds.lookup f = some .globalImplicit) (hg : cx.mg f = none) (hn : f ≠ "__name__") (hv : bootBuiltins f = some c) (hc : Callee c)
  (hd : (f == ("__debug__" : Str)) = false) (h : SoundL cx ε es x false) (ho : OpOK cx o (fun vs => call c vs)) : Sound cx ε (.Call (.Name f p) es [] pos) (.op o x) := by
 refine Sound.ofE ?_ fun _ => rfl
 intro n cf A env F s ρ ad m cm H res he Q E hQ
 obtain ⟨rs,e1,e2⟩ := ev_op he
 rw [zaw (by intro _ _ _ e; injection e)]
 refine wb (zaS H hk hg hn hv hd ?_)
 cases hc with
 | builtin id =>
  refine Calls.callWith_builtin (zaK h) (za2 h H e1 fun vs F' s' st q => ?_)
  exact ho n A F' s' vs _ res H.ok H.bud st.wd q.brep e2 _ _ (hQ.after st)
 | type T =>
  refine PyProof.Rows.callWith_type (zaK h) (za2 h H e1 fun vs F' s' st q => ?_)
  exact ho n A F' s' vs _ res H.ok H.bud st.wd q.brep e2 _ _ (hQ.after st)
noncomputable def plainBase : Expr → Bool
 | .Call (.Name _ _) [] [] _ => false
 | _ => true
theorem zdA {o : Expr} {a : Str} {env : Env} {t : Sem Value} (h : plainBase o = true) : attributeBase o a env t = t := by
 cases o with
 | Call f as ks pos => cases f with
  | Name x p => cases as with
   | nil => cases ks with
    | nil => injection h
    | cons _ _ => rfl
   | cons _ _ => rfl
  | _ => rfl
 | _ => rfl
theorem zb8 {o : Expr} {name : Str} {apos pos : Pos} {es : List Expr} {env : Env} {A : Around} {s : Shared} {Q E : VP} (hb : plainBase o = true) (hl : (apos.endLine == pos.line) = true) (hn : es.length < 30)
  (hst : (backTo pos (starEach es env)).any (·.1) = false)
  (h : wpAny (model cx.prog cx.w) A (eval o env) (fun ov s₁ => wpAny (model cx.prog cx.w) A (getMethod ov name (do return (← importBound o env).getD true)) (fun fx s₂ => wpAny (model cx.prog cx.w) A (callWith pos fx.1 fx.2 (backTo pos (starEach es env)) []) Q E s₂) E s₁) E s) :
  wpAny (model cx.prog cx.w) A (eval (.Call (.Attribute o name apos) es [] pos) env) Q E s := by
 have hform : methodCallForm (es.length + ([] : List Keyword).length) (backTo pos (starEach es env)) [] = true := by
  unfold methodCallForm
  simp only [List.length_nil,Nat.add_zero,List.all_nil,Bool.and_true,List.isEmpty_nil,if_true,Bool.and_eq_true,decide_eq_true_eq]
  refine ⟨?_,hn⟩
  rw [List.all_eq_true]
  intro y hy
  have := List.any_eq_false.mp hst y hy
  simpa using this
 have hpos : methodCallPos true o env apos pos = pure pos := by unfold methodCallPos; simp [hl]
 show wpAny _ _ (do
  let ov ← attributeBase o name env (eval o env)
  standAt apos.atName
  methodCall o name apos pos env ov (es.length + ([] : List Keyword).length) (backTo pos (starEach es env)) (backToKw pos (keywordEach [] env))) Q E s
 rw [zdA hb]
 refine wb (wpAny_mono h (fun ov s₁ h₁ => wb (wpAny_standAt ?_)) fun _ _ e => e)
 show wpAny _ _ (methodCall o name apos pos env ov (es.length + ([] : List Keyword).length) (backTo pos (starEach es env)) []) Q E s₁
 unfold methodCall calleeOf
 rw [hform]
 refine wb (wpAny_holding (wpAny_mono h₁ (fun fx s₂ h₂ => ?_) fun _ _ e => e))
 rw [hpos]
 exact wb (wpAny_pure h₂)
theorem zaL {o : Expr} {name : Str} {id : String} {apos pos : Pos} {es : List Expr} {xo x : X} {op : Op} (hb : plainBase o = true) (hl : (apos.endLine == pos.line) = true) (hn : es.length < 30)
  (slot : PySem.Slot "str" name id) (ty : typeOf (.builtin id) = pure (.type "method_descriptor"))
  (h0 : Sound cx ε o xo) (h : SoundL cx ε es x false) (hs : ∀ d ds r,opF op (d :: ds) = some r → ∃ l,d = .str l) (ho : OpOK cx op (fun vs => call (.builtin id) vs)) : Sound cx ε (.Call (.Attribute o name apos) es [] pos) (.op op (.cons xo x)) := by
 refine Sound.ofE ?_ fun _ => rfl
 intro n cf A env F s ρ ad m cm H res he Q E hQ
 obtain ⟨rs,e1,e2⟩ := ev_op he
 obtain ⟨r0,rs',e3,e4,rfl⟩ := zay e1
 refine zb8 hb hl hn (zaK h) ?_
 refine h0.ev n cf A env F s ρ ad m cm H r0 e3 _ _ fun v F' s' st q => ?_
 obtain ⟨l,hl'⟩ := hs _ _ _ e2
 have qb := q.brep
 rw [hl'] at qb
 obtain ⟨t,rfl,p,z⟩ := qb.str_inv
 refine GM.of _ (typeIs_str _ _ _) slot ty (fun _ e => nomatch e) ?_
 refine Calls.callWith_builtin (zaK h) (za2 h (H.step st) e4 fun vs F'' s'' st' qs => ?_)
 exact ho n A F'' s'' (_ :: vs) _ res H.ok H.bud st'.wd (.cons (st'.brep st.wd q.brep) qs.brep) e2 _ _ (hQ.after (st.trans st'))
end
theorem zdH {α : Type} (n : Nat) (l : List α) : ((List.replicate n l.toArray).foldl (· ++ ·) #[]) = ((List.replicate n l).flatten).toArray := by
 have : ∀ (m : Nat) (acc : List α),((List.replicate m l.toArray).foldl (· ++ ·) acc.toArray) = (acc ++ (List.replicate m l).flatten).toArray := by
  intro m
  induction m with
  | zero => intro acc; simp
  | succ m ih =>
   intro acc
   simp only [List.replicate_succ,List.foldl_cons,List.flatten_cons]
   rw [show acc.toArray ++ l.toArray = (acc ++ l).toArray by simp,ih]
   simp
 have := this n []
 simpa using this
section
variable {cx : XCx}
theorem mul_str {F : AP} {s : Shared} {A : Around} {x y : Value} {a : List Nat} {b : Int} (qa : BRep cx F s.heap x (.str a)) (qb : BRep cx F s.heap y (.int b)) (hb : small b = true) (hz : a.length * b.toNat ≤ lim) {Q E : VP}
  (h : ∀ t k,Q (.str ⟨(rep a b).toArray⟩ t) { s with toks := k }) : wpAny (model cx.prog cx.w) A (binaryOp .Mult x y) Q E s := by
 obtain ⟨t,rfl,p,z⟩ := qa.str_inv
 obtain ⟨u,rfl⟩ := qb.int_inv
 obtain ⟨b1,b2⟩ := zdS hb
 have hlen : (PySem.Str.mk a.toArray).length = a.length := List.size_toArray ..
 have b3 : b ≤ 2 ^ 63 - 1 := Int.le_trans b2 (by decide)
 refine SB.mul ⟨by rw [decide_eq_false (Int.not_lt.mpr (Int.le_trans (by decide) b1)),decide_eq_false (Int.not_le.mpr (Int.lt_of_le_of_lt b2 (by decide)))]; rfl,fun h1 _ h2 => ?_,fun h1 _ => ?_⟩ fun t' k => ?_
 ·rw [hlen] at h2
  clear hz hlen qa qb p
  have hpos : 0 < b := by omega
  have h3 : 1000000 ≤ (2 ^ 63 - 1) / b := Int.le_ediv_of_mul_le hpos (Int.le_trans (Int.mul_le_mul_of_nonneg_left b2 (by decide)) (by decide))
  exact absurd (Int.lt_of_le_of_lt h3 h2) (Int.not_lt.mpr (Int.ofNat_le.mpr z))
 ·rw [hlen]
  exact decide_eq_false (Nat.not_lt.mpr (zaB hz))
 ·have e : Txt.mul ⟨a.toArray⟩ b = ⟨(rep a b).toArray⟩ := by
   unfold Txt.mul rep
   split
   ·rename_i h1
    rw [Int.toNat_of_nonpos (Int.lt_add_one_iff.mp h1)]; rfl
   ·split
    ·rename_i h1 h2
     rcases (Bool.or_eq_true _ _).mp h2 with h2 | h2
     ·have := eq_of_beq h2
      subst this; exact congrArg PySem.Str.mk (by simp)
     ·rw [hlen] at h2
      have := List.length_eq_zero_iff.mp (eq_of_beq h2)
      subst this; exact congrArg PySem.Str.mk (by simp)
    ·show PySem.Str.mk _ = _
     rw [zdH]
  rw [e]
  exact h t' k
theorem rep_mem {α : Type} {a : List α} {b : Int} {c : α} (h : c ∈ rep a b) : c ∈ a := by
 obtain ⟨l,hl,hc⟩ := List.mem_flatten.mp h
 rw [(List.mem_replicate.mp hl).2] at hc
 exact hc
theorem ziT {α : Type} (a : List α) (b : Int) : (rep a b).length = a.length * b.toNat := by
 unfold rep
 rw [List.length_flatten,List.map_replicate,List.sum_replicate_nat,Nat.mul_comm]
theorem zkQ {F : AP} {s : Shared} {A : Around} {x y : Value} {a : List D} {b : Int} (w : Wd cx F s) (qa : BRep cx F s.heap x (.list a)) (qb : BRep cx F s.heap y (.int b)) (hb : small b = true) (hz : a.length * b.toNat ≤ lim) {Q E : VP}
  (h : ∀ vs : List Value,vs.length ≤ lim → RepL cx.T F s.heap vs (rep a b) → Q (.ref s.heap.objs.size) { s with heap := s.heap.push (lobj vs.toArray 0) }) : wpAny (model cx.prog cx.w) A (binaryOp .Mult x y) Q E s := by
 obtain ⟨l,vs,k,rfl,nx,g,z,ql⟩ := qa.list_inv w
 obtain ⟨u,rfl⟩ := qb.int_inv
 obtain ⟨b1,b2⟩ := zdS hb
 have hl : vs.length * b.toNat ≤ lim := ql.length ▸ hz
 have hsz : vs.toArray.size * b.toNat ≤ 2 ^ 24 := by rw [List.size_toArray]; exact Nat.le_trans hl (by decide)
 have e : (List.foldl (fun x1 x2 => x1 ++ x2) #[] (List.replicate (if vs.toArray.isEmpty = true then 0 else b.toNat) vs.toArray)) = (rep vs b).toArray := by
  unfold rep
  split
  ·rename_i h1
   have : vs = [] := by simpa using h1
   subst this
   simp
  ·rw [zdH]
 have := h (rep vs b) (ziT vs b ▸ hl) (ql.rep _)
 rw [← e] at this
 clear qa qb ql hz h e
 refine wpAny_binaryOp_repeat_ref (T := "list") (U := "int") (by decide) ⟨_,g,rfl⟩ (fun s' => typeIs_int s' b u) noFill_list_mul PySem.F.fills_int_mul PySem.F.slot_int_rmul repeat_list PySem.F.slot_int_index.lookup
  (call_meets PySem.F.slot_int_rmul (typeIs_int s b u) PySem.F.entry_int_rmul (PySem.F.args_int_rmul_2 _ _) (int___rmul___int_list b u l vs.toArray k)
   ⟨g,rfl,⟨_,g,rfl⟩,call_meets PySem.F.slot_list_mul ⟨_,g,rfl⟩ PySem.F.entry_list_mul (PySem.F.args_list_mul_2 _ _)
    (AutoListH.list___mul___list_int_3 l vs.toArray k b u (by simp [Builtin.List.listFitsIndex]; omega) (by omega) (by simp [Builtin.List.listTooLong,sizeLine]; omega))
    ⟨g,this⟩⟩)
inductive MulI : List D → R → Prop
 | i {a b : Int} : (small a || small b) = true → MulI [.int a,.int b] (.val (.int (a * b)))
 | s {a : List Nat} {b : Int} : small b = true → a.length * b.toNat ≤ lim → MulI [.str a,.int b] (.val (.str (rep a b)))
 | l {a : List D} {b : Int} : small b = true → a.length * b.toNat ≤ lim → MulI [.list a,.int b] (.own (rep a b))
theorem mul_inv {ds : List D} {r : R} (he : opMul ds = some r) : MulI ds r := by
 obtain ⟨a,b,rfl,he⟩ := zcN (show two _ ds = some r from he)
 obtain ⟨i,e,he⟩ := Option.bind_eq_some_iff.mp he
 obtain rfl := zcB e
 cases a <;> try (injection he; done)
 ·obtain ⟨h,rfl⟩ := zce he
  exact .i h
 ·obtain ⟨h,rfl⟩ := zce he
  have h := (Bool.and_eq_true _ _).mp h
  exact .s h.1 (of_decide_eq_true h.2)
 ·obtain ⟨h,rfl⟩ := zce he
  have h := (Bool.and_eq_true _ _).mp h
  exact .l h.1 (of_decide_eq_true h.2)
theorem op_mul : OpOK cx .mul (op2 (binaryOp .Mult)) := by
 intro n A F s vs ds r ok bud w q he Q E hQ
 cases mul_inv he with
 | i hs =>
  obtain ⟨x,y,rfl,qa,qb⟩ := q.two
  obtain ⟨t,rfl⟩ := qa.int_inv
  obtain ⟨u,rfl⟩ := qb.int_inv
  refine P.mul_int (hQ _ F _ ((Step.refl w).toks _) (.val (.int _ _))) ?_
  have hb : ∀ {i : Int},small i = true → Builtin.Int.intBits i ≤ 64 := fun h => let ⟨h1,h2⟩ := zdS h; PySem.intBits_le_64 (Int.le_trans (by decide) h1) (Int.lt_of_le_of_lt h2 (by decide))
  rcases (Bool.or_eq_true _ _).mp hs with hs | hs
  ·exact PySem.IntMulOk.of_left (hb hs)
  ·exact PySem.IntMulOk.of_right (hb hs)
 | s hb hz =>
  obtain ⟨x,y,rfl,qa,qb⟩ := q.two
  obtain ⟨_,_,p,_⟩ := qa.str_inv
  exact mul_str qa qb hb hz fun t k => hQ _ F _ ((Step.refl w).toks k) (.val (.str t (fun c hc => p c (rep_mem hc)) (by rw [ziT]; exact hz)))
 | l hb hz =>
  obtain ⟨x,y,rfl,qa,qb⟩ := q.two
  exact zkQ w qa qb hb hz fun vs hl ql => hQ _ F _ (Step.push ok w _ _) (.pushOwn w hl ql)
inductive IsInv : D → D → Bool → Prop
 | none {d : D} {c : Bool} : noneB d = some c → IsInv d .none c
 | toks {i j : Nat} : i < 2 → j < 2 → IsInv (.tok i) (.tok j) (decide (i = j))
 | strTok (l : List Nat) (k : Nat) : IsInv (.str l) (.tok k) false
 | tokStr (l : List Nat) (k : Nat) : IsInv (.tok k) (.str l) false
 | noneTok (k : Nat) : IsInv .none (.tok k) false
theorem isD_inv {a b : D} {c : Bool} (h : isD a b = some c) : IsInv a b c := by
 cases b <;> try (injection h; done)
 ·exact .none h
 ·cases a <;> (first | (injection h; done) | (injection h with h; subst h))
  exact .tokStr _ _
 ·cases a with
  | none => (injection h with h; subst h); exact .noneTok _
  | str => (injection h with h; subst h); exact .strTok _ _
  | tok i => obtain ⟨⟨h1,h2⟩,rfl⟩ := zce h; exact .toks h1 h2
  | _ => injection h
theorem ziv {F : AP} {h : Heap} {v : Value} {d : D} {c : Bool} (q : BRep cx F h v d) (e : noneB d = some c) : plainIs v .none = true ∧ (v == .none) = c := by
 cases q with
 | rep q => cases q <;> (first | (injection e; done) | (injection e with e; subst e)) <;> exact ⟨rfl,rfl⟩
 | own => (injection e with e; subst e); exact ⟨rfl,rfl⟩
theorem ziC {F : AP} {h : Heap} {v : Value} {k : Nat} (q : BRep cx F h v (.tok k)) (hk : k < 2) : ∃ n t,h.get? (cx.T k) = some (lobj #[.str ⟨(tokC k).toArray⟩ t] n) := by
 cases q with | rep q => cases q with | tok f => exact (f hk).2
theorem zjB (ok : CxOk cx) {F : AP} {s : Shared} {A : Around} {x y : Value} {a b : D} {c : Bool} (w : Wd cx F s) (qa : BRep cx F s.heap x a) (qb : BRep cx F s.heap y b) (hc : isD a b = some c) {Q : Bool → Shared → Prop} {E : VP} (h : Q c s) :
  wpAny (model cx.prog cx.w) A (isSame x y) Q E s := by
 cases isD_inv hc with
 | none e =>
  obtain ⟨e1,e2⟩ := ziv qa e
  rw [qb.none_inv]
  exact wpAny_isSame_plain e1 (by rw [e2]; exact h)
 | noneTok k => rw [qa.none_inv,qb.tok_inv]; exact wpAny_isSame_plain rfl h
 | strTok l k => obtain ⟨t,rfl,_,_⟩ := qa.str_inv; rw [qb.tok_inv]; exact wpAny_isSame_plain rfl h
 | tokStr l k => obtain ⟨t,rfl,_,_⟩ := qb.str_inv; rw [qa.tok_inv]; exact wpAny_isSame_plain rfl h
 | @toks i j h1 h2 =>
  obtain ⟨_,_,g⟩ := ziC qa h1
  obtain ⟨_,_,g'⟩ := ziC qb h2
  rw [qa.tok_inv,qb.tok_inv]
  by_cases e : i = j
  ·subst e
   rw [decide_eq_true rfl] at h
   exact wpAny_isSame_ref_self h
  ·rw [decide_eq_false e] at h
   exact wpAny_isSame_ref_other (fun e' => e (ok.tinj _ _ e')) g g' (by show Value.type "list" ≠ Value.type "tuple"; decide) h
theorem op_is : OpOK cx .is_ (op2 (compareOp .Is)) := by
 intro n A F s vs ds r ok bud w q he
 refine ze5 w q he fun x y a b c qa qb hc Q E h => ?_
 show wpAny _ A (do return .bool (← isSame x y)) Q E s
 exact wb (zjB ok w qa qb hc (wpAny_pure (h s.toks)))
theorem zkB : OpOK cx .isnot (op2 (compareOp .IsNot)) := by
 intro n A F s vs ds r ok bud w q he
 refine ze5 w q he fun x y a b c qa qb hc Q E h => ?_
 obtain ⟨c',hc',rfl⟩ := Option.map_eq_some_iff.mp hc
 show wpAny _ A (do return .bool (!(← isSame x y))) Q E s
 exact wb (zjB ok w qa qb hc' (wpAny_pure (h s.toks)))
theorem zb3 : OpOK cx .len (fun vs => call (.builtin "len") vs) := by
 intro n A F s vs ds r ok bud w q he Q E hQ
 replace he : opLen ds = some r := he
 rcases ds with _ | ⟨a0,t0⟩
 ·injection he
 cases a0 <;> try (injection he; done)
 all_goals
  rcases t0 with _ | ⟨a1,t1⟩ <;> (first | (injection he; done) | (injection he with he; subst he))
 ·obtain ⟨x,rfl,qa⟩ := q.one
  obtain ⟨t,rfl,p,z⟩ := qa.str_inv
  rename_i l
  have e : (PySem.Str.mk l.toArray).length = l.length := by show l.toArray.size = _; rw [List.size_toArray]
  refine P.len_str (by rw [e]; have := sz_lt z; omega) ?_
  rw [e]
  exact hQ _ F _ ((Step.refl w).toks _) (.val (.int _ _))
 ·obtain ⟨x,rfl,qa⟩ := q.one
  obtain ⟨a,vs,k,rfl,nx,g,z,ql⟩ := qa.list_inv w
  refine PyProof.Rows.len_list (zaI g) (by rw [List.size_toArray]; exact sz_lt z) ?_
  rw [List.size_toArray,ql.length]
  exact hQ _ F _ ((Step.refl w).toks _) (.val (.int _ _))
 ·obtain ⟨x,rfl,qa⟩ := q.one
  obtain ⟨a,vs,k,rfl,f,g,z,ql⟩ := qa.tup_inv
  refine PyProof.Rows.len_tuple (zfy g) (by rw [List.size_toArray]; exact sz_lt z) ?_
  rw [List.size_toArray,ql.length]
  exact hQ _ F _ ((Step.refl w).toks _) (.val (.int _ _))
theorem abs_ite {i : Int} : (if i < 0 then -i else i) = (i.natAbs : Int) := by
 split
 ·rename_i h; exact (Int.ofNat_natAbs_of_nonpos (Int.le_of_lt h)).symm
 ·rename_i h; exact (Int.natAbs_of_nonneg (Int.not_lt.mp h)).symm
theorem zln : OpOK cx .abs (fun vs => call (.builtin "abs") vs) := by
 intro n A F s vs ds r ok bud w q he Q E hQ
 delta opF at he; dsimp only at he
 unfold opAbs at he
 split at he <;> (first | (injection he; done) | (injection he with he; subst he))
 rename_i i
 obtain ⟨x,rfl,qa⟩ := q.one
 obtain ⟨t,rfl⟩ := qa.int_inv
 refine PyProof.Rows.call_abs_int fun u tk => ?_
 have e : (if i < 0 then -i else i) = (i.natAbs : Int) := abs_ite
 rw [e]
 exact hQ _ F _ ((Step.refl w).toks _) (.val (.int _ _))
theorem zhM {F : AP} {h : Heap} : ∀ {l : List D} {is : List Int} {vs : List Value},toInts l = some is → RepL cx.T F h vs l → ∀ (i : Nat) v,vs[i]? = some v → ∃ t,v = .int (is.getD i 0) t := by
 intro l
 induction l with
 | nil => intro is vs e q i v hv; cases q; injection hv
 | cons d r ih =>
  intro is vs e q
  cases d <;> try (injection e; done)
  obtain ⟨is',e',rfl⟩ := Option.map_eq_some_iff.mp (show (toInts r).map _ = some is from e)
  cases q with
  | cons a b =>
   obtain ⟨t,e2⟩ := (BRep.rep (cx := cx) a).int_inv
   intro i v hv
   cases i with
   | zero => exact ⟨t,(Option.some.inj hv).symm.trans e2⟩
   | succ i => exact ih e' b i v hv
theorem zcZ : ∀ {l : List D} {is : List Int},toInts l = some is → is.length = l.length
 | [],is,e => by (injection e with e; subst e); rfl
 | d :: r,is,e => by
  cases d <;> try (injection e; done)
  obtain ⟨is',e',rfl⟩ := Option.map_eq_some_iff.mp (show (toInts r).map _ = some is from e)
  simp [zcZ e']
theorem op_sum : OpOK cx .sum (fun vs => call (.builtin "sum") vs) := by
 intro n A F s vs ds r ok bud w q he Q E hQ
 delta opF at he; dsimp only at he
 unfold opSum at he
 split at he
 ·rename_i l
  obtain ⟨is,e1,e2⟩ := Option.map_eq_some_iff.mp he
  subst e2
  obtain ⟨x,rfl,qa⟩ := q.one
  obtain ⟨a,vs,k,rfl,nx,g,z,ql⟩ := qa.list_inv w
  refine call_sum_walkG (wpAny_pyIter_list (zaI g) ?_)
  have hne : a ≠ s.heap.objs.size := Nat.ne_of_lt (Heap.lt_size g)
  refine ⟨s.heap.objs.size,_,_,_,_,_,fun i => is.getD i 0,rfl,Walks.list (A := A.in1) bud.hd _ a hne vs.toArray,⟨⟨_,Heap.get?_push_size _ rfl,rfl,rfl⟩,zaI (Heap.get?_push_of_some _ g)⟩, ?_, ?_, ?_⟩
  ·intro b hb
   simp only [List.mem_cons,List.not_mem_nil,or_false] at hb
   rw [Heap.size_push]
   rcases hb with rfl | rfl
   ·exact Nat.lt_succ_self _
   ·exact Nat.lt_succ_of_lt (Heap.lt_size g)
  ·intro i v hv
   exact zhM e1 ql i v (by simpa using hv)
  ·intro h' tk t' hk
   have e : preSum (fun i => is.getD i 0) vs.toArray.size = is.sum := by
    rw [preSum_getD,List.size_toArray,ql.length, ← zcZ e1,List.take_length]
   rw [e]
   refine hQ _ F _ (Step.grown ok w _ fun b o hb => ?_) (.val (.int _ _))
   refine hk b o ?_ (Heap.get?_push_of_some _ hb)
   simp only [List.mem_cons,List.not_mem_nil,or_false]
   rintro rfl
   rw [zaz] at hb; injection hb
 ·injection he
end
theorem za0 (l : List Nat) : (PySem.Str.mk l.toArray).length = l.length := by show l.toArray.size = _; rw [List.size_toArray]
theorem zeT (x : PySem.Str) (lo hi : Nat) : (∀ c ∈ (strSub x lo hi).cps.toList,c ∈ x.cps.toList) ∧ (strSub x lo hi).cps.size ≤ x.cps.size := by
 unfold strSub
 constructor
 ·intro c hc
  simp only [Array.mem_toList_iff] at hc ⊢
  obtain ⟨i,hi,e⟩ := Array.mem_iff_getElem.mp hc
  rw [Array.getElem_extract] at e
  exact Array.mem_iff_getElem.mpr ⟨_,_,e⟩
 ·simp only [Array.size_extract]; exact Nat.le_trans (Nat.sub_le _ _) (Nat.min_le_right _ _)
section
variable {cx : XCx}
theorem ziG {F : AP} {h : Heap} {l : List Nat} (p : ∀ c ∈ l,c < 0x110000) (z : l.length ≤ lim) {y : PySem.Str} (t : Tok) (h1 : ∀ c ∈ y.cps.toList,c ∈ l) (h2 : y.cps.size ≤ l.length) : Rep cx.T F h (.str y t) (.str y.cps.toList) :=
 Rep.str (l := y.cps.toList) t (fun c hc => p c (h1 c hc)) (by rw [Array.length_toList]; exact Nat.le_trans h2 z)
theorem zfd {f : PySem.Str → PySem.Str → R} {vs : List Value} {ds : List D} {F : AP} {s : Shared} {A : Around} {r : R} {id : String} (w : Wd cx F s) (q : BRepL cx F s.heap vs ds) (he : opStr2 f ds = some r)
  (h : ∀ (a b : List Nat) (t u : Tok),(∀ c ∈ a,c < 0x110000) → a.length ≤ lim → ∀ (Q E : VP),(∀ v k,RepR cx F s.heap s.heap v (f ⟨a.toArray⟩ ⟨b.toArray⟩) → Q v { s with toks := k }) →
   wpAny (model cx.prog cx.w) A (call (.builtin id) [.str ⟨a.toArray⟩ t,.str ⟨b.toArray⟩ u]) Q E s) : Ev cx A F s (call (.builtin id) vs) r := by
 intro Q E hQ
 obtain ⟨a,b,rfl,he⟩ := zcN (show two _ ds = some r from he)
 obtain ⟨a,e,he⟩ := Option.bind_eq_some_iff.mp he
 obtain ⟨b,e2,he⟩ := Option.bind_eq_some_iff.mp he
 obtain rfl := zbF e
 obtain rfl := zbF e2
 (injection he with he; subst he)
 obtain ⟨x,y,rfl,qa,qb⟩ := q.two
 obtain ⟨t,rfl,p,z⟩ := qa.str_inv
 obtain ⟨u,rfl,_,_⟩ := qb.str_inv
 exact h _ _ t u p z Q E fun v k rv => hQ v F _ ((Step.refl w).toks k) rv
theorem zkA : OpOK cx .rfind (fun vs => call (.builtin "str.rfind") vs) := by
 intro n A F s vs ds r ok bud w q he
 delta opF at he; dsimp only at he
 exact zfd w q he fun a b t u p z Q E h => SC.rfind (h _ _ (.val (.int _ _)))
theorem zfm : OpOK cx .startswith (fun vs => call (.builtin "str.startswith") vs) := by
 intro n A F s vs ds r ok bud w q he
 delta opF at he; dsimp only at he
 exact zfd w q he fun a b t u p z Q E h => SC.startswith (h _ s.toks (.val (.bool _)))
theorem zgP : OpOK cx .endswith (fun vs => call (.builtin "str.endswith") vs) := by
 intro n A F s vs ds r ok bud w q he
 delta opF at he; dsimp only at he
 exact zfd w q he fun a b t u p z Q E h => SC.endswith (h _ s.toks (.val (.bool _)))
theorem zgz (g : Nat → Bool) (l r : Bool) (x : PySem.Str) : (∀ c ∈ (Txt.stripBy g l r x).cps.toList,c ∈ x.cps.toList) ∧ (Txt.stripBy g l r x).cps.size ≤ x.cps.size := by
 unfold Txt.stripBy
 split
 ·exact ⟨fun _ h => h,Nat.le_refl _⟩
 ·exact zeT _ _ _
theorem zi1 : OpOK cx .rstrip (fun vs => call (.builtin "str.rstrip") vs) := by
 intro n A F s vs ds r ok bud w q he
 delta opF at he; dsimp only at he
 refine zfd w q he fun a b t u p z Q E h => SC.rstripChars (fun t' k => h _ k (.val ?_)) (by rw [za0]; exact zaB z)
 have := zgz (PySem.Str.mk b.toArray).cps.contains false true ⟨a.toArray⟩
 exact ziG p z t' this.1 (by have h2 := this.2; rw [show (PySem.Str.mk a.toArray).cps.size = a.length from List.size_toArray ..] at h2; exact h2)
theorem zkE : OpOK cx .find4 (fun vs => call (.builtin "str.find") vs) := by
 intro n A F s vs ds r ok bud w q he Q E hQ
 replace he : opFind4 ds = some r := he
 rcases ds with _ | ⟨a0,t0⟩
 ·injection he
 cases a0 <;> try (injection he; done)
 all_goals
  rcases t0 with _ | ⟨a1,t1⟩
  ·injection he
  cases a1 <;> try (injection he; done)
  rcases t1 with _ | ⟨a2,t2⟩
  ·injection he
  cases a2 <;> try (injection he; done)
  rcases t2 with _ | ⟨a3,t3⟩
  ·injection he
  cases a3 <;> try (injection he; done)
  rcases t3 with _ | ⟨a4,t4⟩ <;> try (injection he; done)
 ·rename_i a b i j
  replace he : (if small i ∧ small j then some (R.val (.int (match Builtin.Str.occurrences ⟨a.toArray⟩ ⟨b.toArray⟩ (fromIndex a.length i) (min (fromIndex a.length j) a.length) 1 with | k :: _ => (k : Int) | [] => -1))) else none) = some r := he
  split at he <;> (first | (injection he; done) | (injection he with he; subst he))
  cases q with | cons q1 q => cases q with | cons q2 q => cases q with | cons q3 q => cases q with | cons q4 q =>
  cases q
  obtain ⟨t,rfl,_,_⟩ := q1.str_inv
  obtain ⟨u,rfl,_,_⟩ := q2.str_inv
  obtain ⟨v,rfl⟩ := q3.int_inv
  obtain ⟨v',rfl⟩ := q4.int_inv
  refine call_gives PySem.F.slot_str_find (typeIs_str _ _ _) PySem.F.entry_str_find (PySem.F.args_str_find_4 _ _ _ _) (m := .int (match occurrences ⟨a.toArray⟩ ⟨b.toArray⟩ (fromIndex a.length i) (min (fromIndex a.length j) a.length) 1 with | k :: _ => (k : Int) | [] => -1)) ?_ ?_
  ·show Gives (match occurrences ⟨a.toArray⟩ ⟨b.toArray⟩ (fromIndex (PySem.Str.mk a.toArray).length i) (min (fromIndex (PySem.Str.mk a.toArray).length j) (PySem.Str.mk a.toArray).length) 1 with | k :: _ => retInt k | [] => (do rule "str.find.not-found"; retInt (-1))) _
   rw [za0]
   cases occurrences ⟨a.toArray⟩ ⟨b.toArray⟩ (fromIndex a.length i) (min (fromIndex a.length j) a.length) 1 with
   | nil => exact .rule (.of_eq rfl)
   | cons k _ => exact .of_eq rfl
  ·exact hQ _ F _ ((Step.refl w).toks _) (.val (.int _ _))
theorem zh2 : OpOK cx .replace (fun vs => call (.builtin "str.replace") vs) := by
 intro n A F s vs ds r ok bud w q he Q E hQ
 obtain ⟨a,b,c,rfl,he⟩ := zfc (show opReplace ds = some r from he)
 obtain ⟨hocc,rfl⟩ := zce he
 ·skip
  cases q with | cons q1 q => cases q with | cons q2 q => cases q with | cons q3 q =>
  cases q
  obtain ⟨t,rfl,p,z⟩ := q1.str_inv
  obtain ⟨u,rfl,_,_⟩ := q2.str_inv
  obtain ⟨v,rfl,_,_⟩ := q3.str_inv
  have e : ((occurrences ⟨a.toArray⟩ ⟨b.toArray⟩ 0 (PySem.Str.mk a.toArray).length ((PySem.Str.mk a.toArray).length + 1)).isEmpty || ((PySem.Str.mk b.toArray).length == 0 && (PySem.Str.mk c.toArray).length == 0)) = true := by
   rw [za0,hocc]; rfl
  obtain ⟨mc,n1,n2⟩ := ok.nb
  refine call_givesAt PySem.F.slot_str_replace (typeIs_str _ _ _) PySem.F.entry_str_replace (PySem.F.args_str_replace_3 _ _ _) (gives_str_replace2 _ _ _ t u v fun h => by rw [e] at h; injection h) ⟨mc,n1.at' fun o g => w.base _ o g ok.limx,n2⟩ ?_
  rw [if_pos e]
  exact hQ _ F _ (Step.refl w) (.val (.str t p z))
end
section
variable {cx : XCx}
theorem strs_of {F : AP} {h : Heap} : ∀ {l : List D} {ls : List (List Nat)} {vs : List Value},toStrs l = some ls → RepL cx.T F h vs l →
  ∃ ps : List (PySem.Str × Tok),vs = strValues ps ∧ ps.map (·.1) = ls.map (fun x => PySem.Str.mk x.toArray) ∧ (∀ x ∈ ls,(∀ c ∈ x,c < 0x110000) ∧ x.length ≤ lim) := by
 intro l
 induction l with
 | nil => intro ls vs e q; cases q; (injection e with e; subst e); exact ⟨[],rfl,rfl,fun _ h => nomatch h⟩
 | cons d r ih =>
  intro ls vs e q
  cases d <;> try (injection e; done)
  rename_i x
  obtain ⟨ls',e',rfl⟩ := Option.map_eq_some_iff.mp (show (toStrs r).map _ = some ls from e)
  cases q with
  | cons a b =>
   obtain ⟨ps,rfl,h2,h3⟩ := ih e' b
   cases a with
   | str t p z => exact ⟨(⟨x.toArray⟩,t) :: ps,rfl,congrArg (_ :: ·) h2,List.forall_mem_cons.mpr ⟨⟨p,z⟩,h3⟩⟩
theorem ze1 (s : List Nat) : ∀ (ls : List (List Nat)) (acc : List Nat),((ls.map fun x => PySem.Str.mk x.toArray).foldl (fun (acc : Array Nat) p => acc ++ (PySem.Str.mk s.toArray).cps ++ p.cps) acc.toArray) = (acc ++ (ls.map fun x => s ++ x).flatten).toArray
 | [],acc => by simp
 | x :: r,acc => by
  rw [List.map_cons,List.foldl_cons]
  have e : (acc.toArray ++ (PySem.Str.mk s.toArray).cps ++ (PySem.Str.mk x.toArray).cps) = (acc ++ s ++ x).toArray := by simp
  rw [e,ze1 s r]
  simp
theorem zcA (s a : List Nat) : ∀ r : List (List Nat),joinL s (a :: r) = a ++ (r.map fun x => s ++ x).flatten
 | [] => by simp [joinL]
 | b :: r => by
  rw [joinL,zcA s b r]
  ·simp
  ·intro h; injection h
theorem zdr (s : List Nat) (ls : List (List Nat)) : glued ⟨s.toArray⟩ (ls.map fun x => PySem.Str.mk x.toArray) = ⟨(joinL s ls).toArray⟩ := by
 unfold glued
 cases ls with
 | nil => rfl
 | cons a r =>
  simp only [List.map_cons,List.drop_succ_cons,List.drop_zero,List.headD_cons]
  have := ze1 s r a
  simp only [zcA]
  exact congrArg PySem.Str.mk this
theorem zf9 {s : List Nat} {c : Nat} : ∀ {ls : List (List Nat)},c ∈ joinL s ls → c ∈ s ∨ ∃ x ∈ ls,c ∈ x
 | [],h => by simp [joinL] at h
 | a :: r,h => by
  rw [zcA,List.mem_append] at h
  rcases h with h | h
  ·exact .inr ⟨a,List.mem_cons_self,h⟩
  ·simp only [List.mem_flatten,List.mem_map] at h
   obtain ⟨l,⟨x,hx,rfl⟩,hc⟩ := h
   rcases List.mem_append.mp hc with h | h
   ·exact .inl h
   ·exact .inr ⟨x,List.mem_cons_of_mem _ hx,h⟩
theorem zfv (s : PySem.Str) : ∀ (xs : List PySem.Str) (k : Nat),xs.toArray.foldl (fun n x => n + x.length + s.length) k = k + (xs.map fun x => x.length + s.length).sum := by
 intro xs
 induction xs with
 | nil => intro k; simp
 | cons x r ih =>
  intro k
  have := ih (k + x.length + s.length)
  simp only [List.foldl_toArray,List.foldl_cons,List.map_cons,List.sum_cons] at this ⊢
  rw [this,Nat.add_assoc k,Nat.add_assoc k]
theorem zdG (s : List Nat) (a : List Nat) (r : List (List Nat)) : (joinL s (a :: r)).length = a.length + (r.map fun x => s.length + x.length).sum := by
 rw [zcA,List.length_append,List.length_flatten,List.map_map]
 congr 2
 apply List.map_congr_left
 intro x _
 simp
theorem zjx {a s r : Nat} (hz : a + r ≤ 1000000) (z : s ≤ 1000000) : ¬ (a + s + r > 16777216) := by omega
theorem op_join : OpOK cx .join (fun vs => call (.builtin "str.join") vs) := by
 intro n A F s vs ds r ok bud w q he Q E hQ
 delta opF at he; dsimp only at he
 unfold opJoin at he
 split at he
 ·rename_i a l
  split at he
  ·rename_i ls e1
   split at he <;> (first | (injection he; done) | (injection he with he; subst he))
   rename_i hz
   obtain ⟨x,y,rfl,qa,qb⟩ := q.two
   obtain ⟨t,rfl,p,z⟩ := qa.str_inv
   obtain ⟨D,vs,k,rfl,nx,g,zl,ql⟩ := qb.list_inv w
   obtain ⟨ps,rfl,h2,h3⟩ := strs_of e1 ql
   refine SC.join (l := ps) (texts := ls.map fun x => PySem.Str.mk x.toArray) (zaI g) h2 ?_ fun t' k => ?_
   ·unfold JoinOk tooLong
    rw [zfv,Nat.zero_add,List.map_map]
    simp only [Bool.not_eq_true',decide_eq_false_iff_not]
    rw [sizeLine_eq]
    unfold lim at hz z
    cases ls with
    | nil => simp
    | cons b r =>
     rw [zdG] at hz
     simp only [List.map_cons,List.sum_cons,Function.comp,za0]
     have e : (List.map ((fun x => x.length + a.length) ∘ fun x => PySem.Str.mk x.toArray) r).sum = (r.map fun x => a.length + x.length).sum := by
      congr 1
      apply List.map_congr_left
      intro x _
      show (PySem.Str.mk x.toArray).length + a.length = _
      rw [za0,Nat.add_comm]
     rw [e]
     exact zjx hz z
   ·unfold Txt.join
    rw [zdr]
    refine hQ _ F _ ((Step.refl w).toks k) (.val (.str t' (fun c hc => ?_) hz))
    rcases zf9 hc with hc | ⟨x,hx,hc⟩
    ·exact p c hc
    ·exact (h3 x hx).1 c hc
  ·injection he
 ·injection he
theorem zdD {F : AP} {h : Heap} (a : List Nat) (p : ∀ c ∈ a,c < 0x110000) (z : a.length ≤ lim) : ∀ {l : List (PySem.Str × Tok)} {xs : List PySem.Str},l.map (·.1) = xs → (∀ x ∈ xs,(∀ c ∈ x.cps.toList,c ∈ a) ∧ x.cps.size ≤ a.length) →
  RepL cx.T F h (strValues l) (xs.map fun x => .str x.cps.toList)
 | [],_,rfl,_ => .nil
 | (x,t) :: l,_,rfl,hx => by
  have h1 := hx x List.mem_cons_self
  refine .cons (ziG p z t h1.1 h1.2) (zdD a p z rfl fun y hy => hx y (List.mem_cons_of_mem _ hy))
theorem zi0 (x y : PySem.Str) : (∀ z ∈ Txt.split x y,(∀ c ∈ z.cps.toList,c ∈ x.cps.toList) ∧ z.cps.size ≤ x.cps.size) := by
 intro z hz
 unfold Txt.split at hz
 have self : ∀ z ∈ [x],(∀ c ∈ z.cps.toList,c ∈ x.cps.toList) ∧ z.cps.size ≤ x.cps.size := fun z hz => by
  rw [List.mem_singleton.mp hz]; exact ⟨fun _ h => h,Nat.le_refl _⟩
 split at hz
 ·exact self z hz
 ·split at hz
  ·exact self z hz
  ·unfold partsBetween at hz
   obtain ⟨⟨i,j⟩,_,rfl⟩ := List.mem_map.mp hz
   exact zeT _ _ _
theorem zdu (x y : PySem.Str) : (Txt.split x y).length ≤ x.length + 2 := by
 unfold Txt.split
 split
 ·simp
 ·split
  ·simp
  ·rw [length_partsBetween]
   have := StrLaws.occ_length_le x y 0 x.length (x.length + 1)
   omega
theorem zkz : OpOK cx .split (fun vs => call (.builtin "str.split") vs) := by
 intro n A F s vs ds r ok bud w q he Q E hQ
 delta opF at he; dsimp only at he
 unfold opSplit at he
 split at he
 ·rename_i a b
  split at he <;> (first | (injection he; done) | (injection he with he; subst he))
  rename_i hz
  obtain ⟨x,y,rfl,qa,qb⟩ := q.two
  obtain ⟨t,rfl,p,z⟩ := qa.str_inv
  obtain ⟨u,rfl,_,_⟩ := qb.str_inv
  have hfin : ∀ (l : List (PySem.Str × Tok)) (k : Nat),l.map (·.1) = Txt.split ⟨a.toArray⟩ ⟨b.toArray⟩ → Q (.ref s.heap.objs.size) { s with heap := s.heap.push (lobj (strValues l).toArray 0),toks := k } := by
   intro l k hl
   have hx : ∀ x ∈ Txt.split ⟨a.toArray⟩ ⟨b.toArray⟩,(∀ c ∈ x.cps.toList,c ∈ a) ∧ x.cps.size ≤ a.length := fun x hx => by
    have h2 := zi0 _ _ x hx
    rw [show (PySem.Str.mk a.toArray).cps.size = a.length from List.size_toArray ..] at h2
    exact h2
   have hr := zdD (cx := cx) (F := F) (h := s.heap) a p z hl hx
   have hlen : (strValues l).length ≤ lim := by
    rw [hr.length,List.length_map]
    have := zdu ⟨a.toArray⟩ ⟨b.toArray⟩
    rw [za0] at this
    omega
   exact hQ _ F _ (Step.push ok w _ _) (.pushOwn w hlen hr)
  have hy : ((PySem.Str.mk b.toArray).length == 0) = false := by rw [za0,hz.1]; rfl
  have hsz : (PySem.Str.mk a.toArray).length ≤ sizeLine := by rw [za0]; exact zaB z
  cases h1 : (decide ((PySem.Str.mk a.toArray).length < (PySem.Str.mk b.toArray).length) || decide (strKind ⟨a.toArray⟩ < strKind ⟨b.toArray⟩))
  ·cases hf : (occurrences ⟨a.toArray⟩ ⟨b.toArray⟩ 0 (PySem.Str.mk a.toArray).length ((PySem.Str.mk a.toArray).length + 1)).isEmpty
   ·have hs : Txt.split ⟨a.toArray⟩ ⟨b.toArray⟩ = partsBetween ⟨a.toArray⟩ (occurrences ⟨a.toArray⟩ ⟨b.toArray⟩ 0 (PySem.Str.mk a.toArray).length ((PySem.Str.mk a.toArray).length + 1)) (PySem.Str.mk b.toArray).length := by
     unfold Txt.split; rw [h1,hf]; rfl
    have hsz2 : (partsBetween ⟨a.toArray⟩ (occurrences ⟨a.toArray⟩ ⟨b.toArray⟩ 0 (PySem.Str.mk a.toArray).length ((PySem.Str.mk a.toArray).length + 1)) (PySem.Str.mk b.toArray).length).length ≤ sizeLine := by
     rw [← hs]
     have := zdu ⟨a.toArray⟩ ⟨b.toArray⟩
     rw [za0] at this
     exact zaB (by omega)
    refine call_meets PySem.F.slot_str_split (typeIs_str _ _ _) PySem.F.entry_str_split (PySem.F.args_str_split_2 _ _) (meets_str_split_sep _ _ t u h1 hy hf hsz hsz2) ?_
    show wants Q E _ { s with toks := _,heap := s.heap.push { cls := .type "list",data := .seq (strsFrom s.toks (partsBetween _ _ _)).toArray } }
    rw [strsFrom_eq]
    exact hfin (numbered s.toks _) _ ((numbered_texts _ _).trans hs.symm)
   ·have hs : Txt.split ⟨a.toArray⟩ ⟨b.toArray⟩ = [⟨a.toArray⟩] := by unfold Txt.split; rw [h1,hf]; rfl
    exact call_meets PySem.F.slot_str_split (typeIs_str _ _ _) PySem.F.entry_str_split (PySem.F.args_str_split_2 _ _) (meets_str_split_not_found _ _ t u h1 hy hf) (hfin [(_,t)] s.toks hs.symm)
  ·have hs : Txt.split ⟨a.toArray⟩ ⟨b.toArray⟩ = [⟨a.toArray⟩] := by unfold Txt.split; rw [h1]; rfl
   exact call_meets PySem.F.slot_str_split (typeIs_str _ _ _) PySem.F.entry_str_split (PySem.F.args_str_split_2 _ _) (meets_str_split_cannot_occur _ _ t u h1) (hfin [(_,t)] s.toks hs.symm)
 ·injection he
theorem op_tyOf : OpOK cx .tyOf (fun vs => call (.type "type") vs) := by
 intro n A F s vs ds r ok bud w q he Q E hQ
 delta opF at he; dsimp only at he
 rcases ds with _ | ⟨d,_ | ⟨c,t⟩⟩
 ·injection he
 ·replace he : (tyD d).map (fun n => R.val (.ty n)) = some r := he
  obtain ⟨x,rfl,qa⟩ := q.one
  obtain ⟨T,e1,e2⟩ := Option.map_eq_some_iff.mp he
  subst e2
  have key : s.TypeIs x T ∧ (Value.type T == Value.type "builtin_function_or_method") = false := by
   cases d <;> (first | (injection e1; done) | (injection e1 with e1; subst e1))
   ·rw [qa.bool_inv]; exact ⟨rfl,by decide⟩
   ·obtain ⟨t,rfl⟩ := qa.int_inv; exact ⟨typeIs_int s _ _,by decide⟩
   ·obtain ⟨t,rfl,_,_⟩ := qa.str_inv; exact ⟨typeIs_str s _ _,by decide⟩
   ·obtain ⟨a,vs,n,rfl,nx,g,_,_⟩ := qa.list_inv w; exact ⟨⟨_,g,rfl⟩,by decide⟩
   ·obtain ⟨a,vs,n,rfl,f,g,_,_⟩ := qa.tup_inv; exact ⟨⟨_,g,rfl⟩,by decide⟩
  exact call_type_of key.1 key.2 (hQ _ F _ (Step.refl w) (.val (.ty _)))
 ·injection he
theorem RepL.tys {T : NAd} {F : AP} {h : Heap} : ∀ {ns : List String} {vs : List Value},RepL T F h vs (ns.map .ty) → vs = ns.map .type
 | [],_,.nil => rfl
 | a :: ns,_,.cons q r => by cases q; rw [RepL.tys (ns := ns) r]; rfl
theorem zgv : ∀ {l : List D} {ns : List String},tyL l = some ns → l = ns.map .ty
 | [],_,h => by (injection h with h; subst h); rfl
 | d :: r,ns,h => by
  cases d <;> try (injection h; done)
  obtain ⟨ns',e,rfl⟩ := Option.map_eq_some_iff.mp (show (tyL r).map _ = some ns from h)
  rw [zgv e]; rfl
theorem zhl {d : D} {b : Bool} (h : strB d = some b) : (∃ l,d = .str l ∧ b = true) ∨ ∃ l,d = .list l ∧ b = false := by
 cases d <;> (first | (injection h; done) | (injection h with h; subst h))
 ·exact .inl ⟨_,rfl,rfl⟩
 ·exact .inr ⟨_,rfl,rfl⟩
inductive IsInstI : List D → R → Prop
 | s1 (l : List Nat) : IsInstI [.str l,.ty "str"] (.val (.bool true))
 | s2 (l : List Nat) : IsInstI [.str l,.ty "bytes"] (.val (.bool false))
 | s3 (l : List Nat) : IsInstI [.str l,.tup [.ty "list",.ty "tuple"]] (.val (.bool false))
 | s4 (l : List D) : IsInstI [.list l,.tup [.ty "list",.ty "tuple"]] (.val (.bool true))
theorem zie {ds : List D} {r : R} (he : opIsInst ds = some r) : IsInstI ds r := by
 rcases ds with _ | ⟨a,_ | ⟨b,t⟩⟩
 ·injection he
 ·injection he
 cases b <;> try (injection he; done)
 ·rename_i l
  rcases t with _ | ⟨z,t⟩ <;> try (injection he; done)
  by_cases q : tyL l = some ["list", "tuple"]
  ·replace he := (if_pos q).symm.trans he
   obtain ⟨b,e,rfl⟩ := Option.map_eq_some_iff.mp he
   obtain rfl := zgv q
   rcases zhl e with ⟨l,rfl,rfl⟩ | ⟨l,rfl,rfl⟩
   ·exact .s3 _
   ·exact .s4 _
  ·injection (if_neg q).symm.trans he
 ·rename_i n
  rcases t with _ | ⟨z,t⟩ <;> try (injection he; done)
  by_cases q : strB a = some true
  ·replace he := (if_pos q).symm.trans he
   rcases zhl q with ⟨l,rfl,_⟩ | ⟨l,_,e⟩
   ·by_cases q : n = "str"
    ·(injection (if_pos q).symm.trans he with q; subst q); subst q; exact .s1 _
    ·obtain ⟨rfl,rfl⟩ := zce ((if_neg q).symm.trans he)
     exact .s2 _
   ·injection e
  ·injection (if_neg q).symm.trans he
theorem zck : OpOK cx .isInst (fun vs => call (.builtin "isinstance") vs) := by
 intro n A F s vs ds r ok bud w q he Q E hQ
 cases zie (show opIsInst ds = some r from he) with
 | s1 l =>
  obtain ⟨x,y,rfl,qa,qb⟩ := q.two
  obtain ⟨t,rfl,_,_⟩ := qa.str_inv
  rw [qb.ty_inv]
  exact IsiPair.str_str (hQ _ F _ (Step.refl w) (.val (.bool _)))
 | s2 l =>
  obtain ⟨x,y,rfl,qa,qb⟩ := q.two
  obtain ⟨t,rfl,_,_⟩ := qa.str_inv
  rw [qb.ty_inv]
  exact IsiPair.str_bytes (hQ _ F _ ((Step.refl w).toks _) (.val (.bool _)))
 | s3 l =>
  obtain ⟨x,y,rfl,qa,qb⟩ := q.two
  obtain ⟨t,rfl,_,_⟩ := qa.str_inv
  obtain ⟨a,vs,k,rfl,f,g,z,q3⟩ := qb.tup_inv
  obtain rfl := q3.tys (ns := ["list", "tuple"])
  exact zgn g fun tk => hQ _ F _ ((Step.refl w).toks _) (.val (.bool _))
 | s4 l =>
  obtain ⟨x,y,rfl,qa,qb⟩ := q.two
  obtain ⟨l,ws,j,rfl,nx,gl,_,_⟩ := qa.list_inv w
  obtain ⟨a,vs,k,rfl,f,g,z,q3⟩ := qb.tup_inv
  obtain rfl := q3.tys (ns := ["list", "tuple"])
  exact zfH gl g fun tk => hQ _ F _ ((Step.refl w).toks _) (.val (.bool _))
theorem zjC {ds : List D} {r : R} (he : opIsSub ds = some r) : ds = [.ty "str",.tup [.ty "str",.ty "bytes"]] ∧ r = .val (.bool true) := by
 rcases ds with _ | ⟨a,_ | ⟨b,t⟩⟩
 ·injection he
 ·cases a <;> injection he
 cases a <;> try (injection he; done)
 cases b <;> try (injection he; done)
 rcases t with _ | ⟨z,t⟩ <;> try (injection he; done)
 obtain ⟨⟨rfl,q⟩,rfl⟩ := zce he
 rw [zgv q]
 exact ⟨rfl,rfl⟩
theorem zkC : OpOK cx .isSub (fun vs => call (.builtin "issubclass") vs) := by
 intro n A F s vs ds r ok bud w q he Q E hQ
 obtain ⟨rfl,rfl⟩ := zjC (show opIsSub ds = some r from he)
 obtain ⟨x,y,rfl,qa,qb⟩ := q.two
 rw [qa.ty_inv]
 obtain ⟨a,vs,k,rfl,f,g,z,q3⟩ := qb.tup_inv
 obtain rfl := q3.tys (ns := ["str", "bytes"])
 exact zdO g fun tk => hQ _ F _ ((Step.refl w).toks _) (.val (.bool _))
end
noncomputable def Mut (env : Env) (ρ : List Slot) (ad : NAd) (a : Addr) : Prop :=
 a = env.locals ∨ (∃ n,env.cells.lookup n = some a) ∨ ∃ i l,slotAt ρ i = .own l ∧ a = ad i
set_option genInjectivity false in
structure ScOK (ε : Sc) : Prop where
 inj : ∀ x y i,ε.vars.lookup x = some i → ε.vars.lookup y = some i → x = y
set_option genInjectivity false in
structure Frm (cx : XCx) (ε : Sc) (env : Env) (F : AP) (s : Shared) (ρ : List Slot) (ad : NAd) (m cm : SV) : Prop where
 en : EnvOK cx ε env F s.heap ρ ad m cm
 lf : ¬ F env.locals
 cf : ∀ n c,env.cells.lookup n = some c → ¬ F c ∧ c ≠ env.locals
 cinj : ∀ n n' c,env.cells.lookup n = some c → env.cells.lookup n' = some c → n = n'
 oinj : ∀ i j l l',slotAt ρ i = .own l → slotAt ρ j = .own l' → ad i = ad j → i = j
 own : ∀ i l,slotAt ρ i = .own l → ¬ F (ad i) ∧ ¬ cx.X (ad i) ∧ (∃ o,s.heap.get? (ad i) = some o) ∧ ad i ≠ env.locals ∧ ∀ n,env.cells.lookup n ≠ some (ad i)
set_option genInjectivity false in
structure StepS (cx : XCx) (env : Env) (F : AP) (s : Shared) (ρ : List Slot) (ad : NAd) (F' : AP) (s' : Shared) (ρ' : List Slot) (ad' : NAd) : Prop where
 sub : ∀ a,F a → F' a
 new : ∀ a,F' a → F a ∨ s.heap.get? a = none ∨ Mut env ρ ad a
 keep : ∀ a o,s.heap.get? a = some o → ¬ cx.X a → ¬ Mut env ρ ad a → s'.heap.get? a = some o
 os : s'.os = s.os
 wd : Wd cx F' s'
 mu : ∀ a,Mut env ρ' ad' a → Mut env ρ ad a ∨ s.heap.get? a = none
theorem zaV (ρ : List Slot) (i : Nat) (sl : Slot) (j : Nat) : slotAt (ρ.set i sl) j = if j = i then (if i < ρ.length then sl else .unset) else slotAt ρ j := by
 unfold slotAt
 simp only [List.getD_eq_getElem?_getD,List.getElem?_set]
 by_cases h : i = j
 ·subst h
  simp only [if_true]
  split <;> rfl
 ·simp only [if_neg h,if_neg (Ne.symm h)]
theorem zcz {ρ : List Slot} {i : Nat} {l : List D} (h : ownAt ρ i = some l) : slotAt ρ i = .own l ∧ i < ρ.length ∧ dSlot i = false := by
 unfold ownAt at h
 split at h
 ·rename_i l' e
  by_cases hd : dSlot i = true
  ·rw [if_pos hd] at h; injection h
  rw [if_neg hd] at h
  cases h
  refine ⟨by unfold slotAt; simp [List.getD,e], ?_,by simpa using hd⟩
  rcases Nat.lt_or_ge i ρ.length with q | q
  ·exact q
  ·rw [List.getElem?_eq_none q] at e; injection e
 ·injection h
section
variable {cx : XCx} {ε : Sc} {env : Env} {F F' F'' : AP} {s s' s'' : Shared} {ρ ρ' ρ'' : List Slot} {ad ad' ad'' : NAd} {m cm : SV}
theorem Frm.isSome (f : Frm cx ε env F s ρ ad m cm) {a : Addr} (h : Mut env ρ ad a) : ∃ o,s.heap.get? a = some o := by
 rcases h with rfl | ⟨n,hn⟩ | ⟨i,l,hi,rfl⟩
 ·obtain ⟨o,_,_,e,_⟩ := f.en.ns; exact ⟨o,e⟩
 ·obtain ⟨o,e,_⟩ := f.en.cells n a hn; exact ⟨o,e⟩
 ·exact (f.own i l hi).2.2.1
theorem Frm.notF (f : Frm cx ε env F s ρ ad m cm) {a : Addr} (h : Mut env ρ ad a) : ¬ F a ∧ ¬ cx.X a := by
 rcases h with rfl | ⟨n,hn⟩ | ⟨i,l,hi,rfl⟩
 ·exact ⟨f.lf,f.en.lx⟩
 ·exact ⟨(f.cf n a hn).1,f.en.cxx n a hn⟩
 ·exact ⟨(f.own i l hi).1,(f.own i l hi).2.1⟩
theorem StepS.refl (w : Wd cx F s) : StepS cx env F s ρ ad F s ρ ad := ⟨fun _ h => h,fun _ h => .inl h,fun _ _ e _ _ => e,rfl,w,fun _ h => .inl h⟩
theorem StepS.trans (x : StepS cx env F s ρ ad F' s' ρ' ad') (y : StepS cx env F' s' ρ' ad' F'' s'' ρ'' ad'') : StepS cx env F s ρ ad F'' s'' ρ'' ad'' := by
 have back : ∀ a, ¬ cx.X a → s'.heap.get? a = none → Mut env ρ ad a ∨ s.heap.get? a = none := fun a nx h => by
  by_cases hm : Mut env ρ ad a
  ·exact .inl hm
  ·right
   cases e : s.heap.get? a with
   | none => rfl
   | some o => rw [x.keep a o e nx hm] at h; injection h
 refine ⟨fun a h => y.sub a (x.sub a h),fun a h => ?_,fun a o e nx nm => ?_,y.os.trans x.os,y.wd,fun a h => ?_⟩
 ·rcases y.new a h with q | q | q
  ·exact x.new a q
  ·rcases back a (y.wd.nx a h) q with q | q
   ·exact .inr (.inr q)
   ·exact .inr (.inl q)
  ·rcases x.mu a q with q | q
   ·exact .inr (.inr q)
   ·exact .inr (.inl q)
 ·refine y.keep a o (x.keep a o e nx nm) nx fun hm => ?_
  rcases x.mu a hm with q | q
  ·exact nm q
  ·rw [e] at q; injection q
 ·rcases y.mu a h with q | q
  ·exact x.mu a q
  ·by_cases nx : cx.X a
   ·obtain ⟨o,e⟩ := x.wd.xex a nx
    rw [e] at q; injection q
   ·exact back a nx q
theorem StepS.ofStep (x : Step cx F s F' s') : StepS cx env F s ρ ad F' s' ρ ad := ⟨x.sub,fun a h => (x.new a h).imp id .inl,fun a o e nx _ => x.keep a o e nx,x.os,x.wd,fun _ h => .inl h⟩
theorem Frm.step (f : Frm cx ε env F s ρ ad m cm) (w : Wd cx F s) (x : Step cx F s F' s') : Frm cx ε env F' s' ρ ad m cm := by
 have nf : ∀ {a},Mut env ρ ad a → ¬ F' a := fun h => by
  obtain ⟨o,e⟩ := f.isSome h
  exact x.notF (f.notF h).1 e
 refine ⟨f.en.step x w,nf (.inl rfl),fun n c hc => ⟨nf (.inr (.inl ⟨n,hc⟩)),(f.cf n c hc).2⟩,f.cinj,f.oinj,fun i l hi => ?_⟩
 obtain ⟨_,nx,⟨o,e⟩,h4,h5⟩ := f.own i l hi
 exact ⟨nf (.inr (.inr ⟨i,l,hi,rfl⟩)),nx,⟨o,x.keep _ _ e nx⟩,h4,h5⟩
end
set_option genInjectivity false in
structure HereS (cx : XCx) (ε : Sc) (n : Nat) (cf : CfT) (A : Around) (env : Env) (F : AP) (s : Shared) (ρ : List Slot) (ad : NAd) (m cm : SV) : Prop where
 ok : CxOk cx
 sc : ScOK ε
 calls : CallOK cx n cf
 bud : BudE n A
 wd : Wd cx F s
 frm : Frm cx ε env F s ρ ad m cm
 top : ε.top = true → A.frames = some [env]
theorem HereS.here {cx ε n cf A env F s ρ ad m cm} (H : HereS cx ε n cf A env F s ρ ad m cm) : Here cx ε n cf A env F s ρ ad m cm := ⟨H.ok,H.calls,H.bud,H.wd,H.frm.en⟩
theorem HereS.step {cx ε n cf A env F s ρ ad m cm} {F' : AP} {s' : Shared} (H : HereS cx ε n cf A env F s ρ ad m cm) (x : Step cx F s F' s') : HereS cx ε n cf A env F' s' ρ ad m cm := ⟨H.ok,H.sc,H.calls,H.bud,x.wd,H.frm.step H.wd x,H.top⟩
theorem HereS.stepS {cx ε n cf A env F s ρ ad m cm} {F' : AP} {s' : Shared} {ρ' ad' m' cm'} (H : HereS cx ε n cf A env F s ρ ad m cm) (x : StepS cx env F s ρ ad F' s' ρ' ad') (f : Frm cx ε env F' s' ρ' ad' m' cm') : HereS cx ε n cf A env F' s' ρ' ad' m' cm' := ⟨H.ok,H.sc,H.calls,H.bud,x.wd,f,H.top⟩
inductive OutRep (cx : XCx) (F : AP) (h : Heap) : Flow → Out → Prop
 | next : OutRep cx F h .next .next
 | brk : OutRep cx F h .brk .brk
 | cont : OutRep cx F h .cont .cont
 | ret {v : Value} {d : D} : Rep cx.T F h v d → OutRep cx F h (.ret v) (.ret d)
noncomputable def PostS (cx : XCx) (ε : Sc) (env : Env) (F : AP) (s : Shared) (ρ : List Slot) (ad : NAd) (ρ' : List Slot) (o : Out) (Q : Flow → Shared → Prop) : Prop :=
 ∀ f F' s' ad' m' cm',StepS cx env F s ρ ad F' s' ρ' ad' → Frm cx ε env F' s' ρ' ad' m' cm' → OutRep cx F' s'.heap f o → Q f s'
theorem PostS.after {cx ε env F s ρ ad ρ' o Q} {F₁ : AP} {s₁ : Shared} {ρ₁ ad₁} (h : PostS cx ε env F s ρ ad ρ' o Q) (x : StepS cx env F s ρ ad F₁ s₁ ρ₁ ad₁) : PostS cx ε env F₁ s₁ ρ₁ ad₁ ρ' o Q :=
 fun f F' s' ad' m' cm' y fr q => h f F' s' ad' m' cm' (x.trans y) fr q
noncomputable def SoundS (cx : XCx) (ε : Sc) (st : Stmt) (sx : S) : Prop :=
 ∀ n cf A env F s ρ ad m cm,HereS cx ε n cf A env F s ρ ad m cm → ∀ ρ' o,ex cf sx ρ = some (ρ',o) → ∀ Q E,PostS cx ε env F s ρ ad ρ' o Q → wpAny (model cx.prog cx.w) A (exec st env) Q E s
noncomputable def SoundSs (cx : XCx) (ε : Sc) (sts : List Stmt) (sx : S) : Prop :=
 ∀ n cf A env F s ρ ad m cm,HereS cx ε n cf A env F s ρ ad m cm → ∀ ρ' o,ex cf sx ρ = some (ρ',o) → ∀ Q E,PostS cx ε env F s ρ ad ρ' o Q → wpAny (model cx.prog cx.w) A (execs sts env) Q E s
theorem zjV {cf : CfT} {a b : S} {ρ : List Slot} : ex cf (.seq a b) ρ = (match ex cf a ρ with
  | some (ρ',.next) => ex cf b ρ'
  | some (ρ',o) => some (ρ',o)
  | none => none) := by 
 exact zg5 cf
theorem ex_fz {cf : CfT} {i : Nat} {ρ : List Slot} : ex cf (.fz i) ρ = (match ownAt ρ i with
  | some l => some (ρ.set i (.val (.list l)),.next)
  | none => some (ρ,.next)) := by 
 exact exq_fz cf
section
variable {cx : XCx} {ε : Sc}
theorem zac : SoundSs cx ε [] .skip := by
 intro n cf A env F s ρ ad m cm H ρ' o h Q E hQ
 replace h := (zhD cf).symm.trans h; (injection h with h; injection h with h z; subst h z)
 exact wpAny_execs_nil (hQ .next F s ad m cm (StepS.refl H.wd) H.frm .next)
theorem zaa {st : Stmt} {sts : List Stmt} {a b : S} (h1 : SoundS cx ε st a) (h2 : SoundSs cx ε sts b) : SoundSs cx ε (st :: sts) (.seq a b) := by
 intro n cf A env F s ρ ad m cm H ρ' o h Q E hQ
 refine wpAny_execs_cons ?_
 replace h := (zg5 cf).symm.trans h
 split at h
 ·rename_i ρ₁ e1
  refine h1 n cf A env F s ρ ad m cm H ρ₁ .next e1 _ _ fun f F' s' ad' m' cm' x fr q => ?_
  cases q
  exact h2 n cf A env F' s' ρ₁ ad' m' cm' (H.stepS x fr) ρ' o h _ _ (hQ.after x)
 ·rename_i ρ₁ o₁ hne e1
  cases h
  refine h1 n cf A env F s ρ ad m cm H _ _ e1 _ _ fun f F' s' ad' m' cm' x fr q => ?_
  cases q with
  | next => exact (hne rfl).elim
  | brk => exact hQ _ F' s' ad' m' cm' x fr .brk
  | cont => exact hQ _ F' s' ad' m' cm' x fr .cont
  | ret r => exact hQ _ F' s' ad' m' cm' x fr (.ret r)
 ·injection h
theorem frozenG {n cf A env F s ρ ad m cm} (H : HereS cx ε n cf A env F s ρ ad m cm) {i : Nat} {l : List D} (hs : slotAt ρ i = .own l) (hlt : i < ρ.length) {sl : Slot} (no : ∀ l,sl ≠ .own l)
  (key : ∀ ov,SlotRep cx F s.heap ad i ov (.own l) → SlotRep cx (fun a => F a ∨ a = ad i) s.heap ad i ov sl) :
  ∃ F',StepS cx env F s ρ ad F' s (ρ.set i sl) ad ∧ Frm cx ε env F' s (ρ.set i sl) ad m cm := by
 have f := H.frm
 obtain ⟨nf,nx,⟨o,g⟩,h4,h5⟩ := f.own i l hs
 have hset : ∀ j,slotAt (ρ.set i sl) j = if j = i then sl else slotAt ρ j := fun j => by rw [zaV,if_pos hlt]
 have hsub : ∀ a,F a → (F a ∨ a = ad i) := fun _ h => .inl h
 have wd' : Wd cx (fun a => F a ∨ a = ad i) s := ⟨H.wd.base,H.ok.xi _ _ _ _ H.wd.xi hsub (fun _ _ _ e => e),H.wd.gens,fun a o h nx => .inl (H.wd.f0 a o h nx),fun a h => h.elim (H.wd.lt a) fun e => ⟨_,e ▸ g⟩,fun a h => h.elim (H.wd.nx a) fun e => e ▸ nx,H.wd.xex⟩
 have slots : ∀ j ov,SlotRep cx F s.heap ad j ov (slotAt ρ j) → SlotRep cx (fun a => F a ∨ a = ad i) s.heap ad j ov (slotAt (ρ.set i sl) j) := by
  intro j ov q'
  rw [hset]
  by_cases hj : j = i
  ·subst hj
   rw [if_pos rfl]
   rw [hs] at q'
   exact key ov q'
  ·rw [if_neg hj]
   generalize hsl : slotAt ρ j = sl at q'
   cases q' with
   | unset => exact .unset
   | val q => exact .val (q.mono hsub fun _ _ _ e => e)
   | own nf' nx' g z q hd' => exact .own (fun h => h.elim nf' fun e => hj (f.oinj j i _ _ hsl hs e)) nx' g z (q.mono hsub fun _ _ _ e => e) hd'
   | dic nf' nx' sm g q z hd' => exact .dic (fun h => h.elim nf' fun e => hj (f.oinj j i _ _ hsl hs e)) nx' sm g (q.mono hsub fun _ _ _ e => e) z hd'
   | fdic a b c q z => exact .fdic (.inl a) b c (q.mono hsub fun _ _ _ e => e) z
   | app a b c => exact .app (.inl a) b c
 have back : ∀ j l',slotAt (ρ.set i sl) j = .own l' → slotAt ρ j = .own l' ∧ j ≠ i := fun j l' e => by
  rw [hset] at e
  by_cases hj : j = i
  ·rw [if_pos hj] at e; exact absurd e (no l')
  ·rw [if_neg hj] at e; exact ⟨e,hj⟩
 refine ⟨fun a => F a ∨ a = ad i,⟨hsub,fun a h => h.imp id fun e => .inr (.inr (.inr ⟨i,l,hs,e⟩)),fun _ _ e _ _ => e,rfl,wd',fun a h => ?_⟩, ?_⟩
 ·rcases h with h | h | ⟨j,l',hj,rfl⟩
  ·exact .inl (.inl h)
  ·exact .inl (.inr (.inl h))
  ·exact .inl (.inr (.inr ⟨j,l',(back j l' hj).1,rfl⟩))
 ·refine ⟨⟨f.en.kind,f.en.names,f.en.glob,f.en.blt,f.en.code,f.en.lx,f.en.cxx,f.en.ns,f.en.cells,fun y j hy => (f.en.vars y j hy).imp (fun ⟨k,q⟩ => ⟨k,slots j _ q⟩) fun ⟨k,c,q⟩ => ⟨k,c,slots j _ q⟩⟩,
   fun h => h.elim f.lf fun e => h4 e.symm,fun n c hc => ⟨fun h => h.elim (f.cf n c hc).1 fun e => h5 n (e ▸ hc),(f.cf n c hc).2⟩,f.cinj,fun j k l1 l2 h1 h2 e => f.oinj j k _ _ (back j l1 h1).1 (back k l2 h2).1 e,fun j l1 h1 => ?_⟩
  obtain ⟨h1,hj⟩ := back j l1 h1
  obtain ⟨a1,a2,a3,a4,a5⟩ := f.own j l1 h1
  exact ⟨fun h => h.elim a1 fun e => hj (f.oinj j i _ _ h1 hs e),a2,a3,a4,a5⟩
theorem frozen {n cf A env F s ρ ad m cm} (H : HereS cx ε n cf A env F s ρ ad m cm) {i : Nat} {l : List D} (h : ownAt ρ i = some l) :
  ∃ F',StepS cx env F s ρ ad F' s (ρ.set i (.val (.list l))) ad ∧ Frm cx ε env F' s (ρ.set i (.val (.list l))) ad m cm := by
 obtain ⟨hs,hlt,hd⟩ := zcz h
 refine frozenG H hs hlt (fun _ e => nomatch e) fun ov q => ?_
 cases q with
 | dic _ _ _ _ _ _ hd' => rw [hd] at hd'; injection hd'
 | own _ _ g z q => exact .val (.list (.inr rfl) g z (q.mono (fun _ h => .inl h) fun _ _ _ e => e))
theorem zbj {st : Stmt} {i : Nat} {b : S} (hv : ∃ x,ε.vars.lookup x = some i) (h : SoundS cx ε st b) : SoundS cx ε st (.seq (.fz i) b) := by
 intro n cf A env F s ρ ad m cm H ρ' o he Q E hQ
 rw [zjV,ex_fz] at he
 cases hown : ownAt ρ i with
 | none =>
  rw [hown] at he
  exact h n cf A env F s ρ ad m cm H ρ' o he Q E hQ
 | some l =>
  rw [hown] at he
  obtain ⟨F',x,f⟩ := frozen H hown
  exact h n cf A env F' s _ ad m cm (H.stepS x f) ρ' o he Q E (hQ.after x)
end
section
variable {cx : XCx} {ε : Sc} {n : Nat} {cf : CfT} {A : Around} {env : Env} {F F₀ : AP} {s s₀ : Shared} {ρ : List Slot} {ad ad' : NAd} {m cm m' cm' : SV}
theorem zgT (H : HereS cx ε n cf A env F s ρ ad m cm) {b : Addr} (hb : Mut env ρ ad b) {h' : Heap} (sb : Heap.SameBut b s.heap h') (k : Nat) :
  Wd cx F { s with heap := h',toks := k } ∧ (∀ a o,F a → s.heap.get? a = some o → h'.get? a = some o) := by
 obtain ⟨nf,nx⟩ := H.frm.notF hb
 have hk : ∀ a o,a ≠ b → s.heap.get? a = some o → h'.get? a = some o := fun a o h e => (sb.2 a h).trans e
 have fne : ∀ a,F a → a ≠ b := fun a h e => nf (e ▸ h)
 refine ⟨⟨fun a o e x => hk a o (fne a (H.wd.f0 a o e x)) (H.wd.base a o e x),H.ok.xi _ _ _ _ H.wd.xi (fun _ h => h) (fun a o h e => hk a o (h.elim (fne a) fun h e => nx (e ▸ h)) e),H.wd.gens,H.wd.f0,fun a f => let ⟨o,e⟩ := H.wd.lt a f; ⟨o,hk a o (fne a f) e⟩,H.wd.nx,
  fun a f => let ⟨o,e⟩ := H.wd.xex a f; ⟨o,hk a o (fun e => nx (e ▸ f)) e⟩⟩,fun a o f e => hk a o (fne a f) e⟩
theorem zd9 (H₀ : HereS cx ε n cf A env F₀ s₀ ρ ad m cm) (x : Step cx F₀ s₀ F s) {b : Addr} (hb : Mut env ρ ad b) {h' : Heap} (sb : Heap.SameBut b s.heap h') (k : Nat) {i : Nat} {sl : Slot}
  (hmu : ∀ l,sl = .own l → Mut env ρ ad (ad' i) ∨ s₀.heap.get? (ad' i) = none) (had : ∀ j,j ≠ i → ad' j = ad j) : StepS cx env F₀ s₀ ρ ad F { s with heap := h',toks := k } (ρ.set i sl) ad' := by
 refine ⟨x.sub,fun a h => (x.new a h).imp id .inl,fun a o e nx nm => ?_,x.os,(zgT (H₀.step x) hb sb k).1,fun a h => ?_⟩
 ·exact (sb.2 a fun e => nm (e ▸ hb)).trans (x.keep a o e nx)
 ·rcases h with h | h | ⟨j,l,hj,rfl⟩
  ·exact .inl (.inl h)
  ·exact .inl (.inr (.inl h))
  ·rw [zaV] at hj
   by_cases e : j = i
   ·subst e
    rw [if_pos rfl] at hj
    split at hj
    ·exact hmu l hj
    ·injection hj
   ·rw [if_neg e] at hj
    rw [had j e]
    exact .inl (.inr (.inr ⟨j,l,hj,rfl⟩))
set_option genInjectivity false in
structure NewOwn (cx : XCx) (env : Env) (F : AP) (h' : Heap) (ρ : List Slot) (ad ad' : NAd) (i : Nat) : Prop where
 nf : ¬ F (ad' i)
 nx : ¬ cx.X (ad' i)
 is : ∃ o,h'.get? (ad' i) = some o
 nl : ad' i ≠ env.locals
 nc : ∀ n,env.cells.lookup n ≠ some (ad' i)
 oth : ∀ j l,j ≠ i → slotAt ρ j = .own l → ad j ≠ ad' i
theorem Frm.put (H : HereS cx ε n cf A env F s ρ ad m cm) {b : Addr} (hb : Mut env ρ ad b) {h' : Heap} (sb : Heap.SameBut b s.heap h') (k : Nat) {i : Nat} {sl : Slot}
  (hns : h'.Ns env.locals m') (hcells : ∀ n c,env.cells.lookup n = some c → h'.IsCell c (cm' n))
  (hvars : ∀ x j,ε.vars.lookup x = some j → j ≠ i → m' x = m x ∧ cm' x = cm x)
  (hnew : ∀ x,ε.vars.lookup x = some i → (ε.kinds.lookup x = some .local → SlotRep cx F h' ad' i (m' x) sl) ∧ (ε.kinds.lookup x ≠ some .local → SlotRep cx F h' ad' i (cm' x) sl))
  (had : ∀ j,j ≠ i → ad' j = ad j) (happ : ad' i = ad i ∨ ∀ j,slotAt ρ j ≠ .app i)
  (hbo : ∀ j l,slotAt ρ j = .own l → j ≠ i → ad j ≠ b) (hown : ∀ l,sl = .own l → NewOwn cx env F h' ρ ad ad' i) :
  Frm cx ε env F { s with heap := h',toks := k } (ρ.set i sl) ad' m' cm' := by
 have f := H.frm
 obtain ⟨w',keep⟩ := zgT H hb sb k
 have keepB : ∀ a o,a ≠ b → s.heap.get? a = some o → h'.get? a = some o := fun a o h e => (sb.2 a h).trans e
 have old : ∀ j ov,j ≠ i → SlotRep cx F s.heap ad j ov (slotAt ρ j) → SlotRep cx F h' ad' j ov (slotAt ρ j) := by
  intro j ov hj q
  have hbo := fun l e => hbo j l e hj
  have happ := happ.imp id fun h => h j
  generalize slotAt ρ j = x at q hbo happ
  cases q with
  | unset => exact .unset
  | val q => exact .val (q.mono (fun _ h => h) keep)
  | own nf nx g z q hd =>
   rw [← had j hj] at nf nx g ⊢
   exact .own nf nx (keepB _ _ (by rw [had j hj]; exact hbo _ rfl) g) z (q.mono (fun _ h => h) keep) hd
  | dic nf nx sm g q z hd =>
   rw [← had j hj] at nf nx sm g ⊢
   obtain ⟨o,es,ep,ho,r⟩ := g
   exact .dic nf nx sm ⟨o,es,ep,keepB _ _ (by rw [had j hj]; exact hbo _ rfl) ho,r⟩ (q.mono (fun _ h => h) keep) z hd
  | fdic fb sm g q z =>
   obtain ⟨o,es,ep,ho,r⟩ := g
   exact .fdic fb sm ⟨o,es,ep,keep _ _ fb ho,r⟩ (q.mono (fun _ h => h) keep) z
  | @app b' o k fb g e =>
   refine .app fb (keep _ _ fb g) ?_
   by_cases hk : k = i
   ·subst hk
    rcases happ with h | h
    ·rw [h]; exact e
    ·exact absurd rfl h
   ·rw [had k hk]; exact e
 have slots : ∀ x j,ε.vars.lookup x = some j →
  (ε.kinds.lookup x = some .local ∧ SlotRep cx F h' ad' j (m' x) (slotAt (ρ.set i sl) j)) ∨
  ((ε.kinds.lookup x = some .cell ∨ ε.kinds.lookup x = some .free) ∧ (∃ c,env.cells.lookup x = some c) ∧ SlotRep cx F h' ad' j (cm' x) (slotAt (ρ.set i sl) j)) := by
  intro x j hx
  rw [zaV]
  by_cases e : j = i
  ·subst e
   rw [if_pos rfl]
   have nl : ∀ {k : NameKind},ε.kinds.lookup x = some k → k ≠ .local → ε.kinds.lookup x ≠ some .local := fun h hk e => hk (by rw [h] at e; exact Option.some.inj e)
   rcases f.en.vars x j hx with ⟨k,q⟩ | ⟨k,c,q⟩
   ·left
    refine ⟨k, ?_⟩
    split
    ·exact (hnew x hx).1 k
    ·exact .unset
   ·right
    refine ⟨k,c, ?_⟩
    split
    ·refine (hnew x hx).2 fun e => ?_
     rw [e] at k; rcases k with k | k <;> (injection k with k; injection k)
    ·exact .unset
  ·rw [if_neg e]
   obtain ⟨e1,e2⟩ := hvars x j hx e
   rw [e1,e2]
   exact (f.en.vars x j hx).imp (fun ⟨k,q⟩ => ⟨k,old j _ e q⟩) fun ⟨k,c,q⟩ => ⟨k,c,old j _ e q⟩
 refine ⟨⟨f.en.kind,f.en.names,f.en.glob,f.en.blt,f.en.code,f.en.lx,f.en.cxx,hns,hcells,slots⟩,f.lf,f.cf,f.cinj,fun p q l1 l2 h1 h2 e => ?_,fun j l hj => ?_⟩
 ·rw [zaV] at h1 h2
  by_cases hp : p = i
  ·by_cases hq : q = i
   ·rw [hp,hq]
   ·subst hp
    rw [if_pos rfl] at h1
    rw [if_neg hq] at h2
    split at h1
    ·have := (hown l1 h1).oth q l2 hq h2
     rw [had q hq] at e
     exact absurd e.symm this
    ·injection h1
  ·by_cases hq : q = i
   ·subst hq
    rw [if_neg hp] at h1
    rw [if_pos rfl] at h2
    split at h2
    ·have := (hown l2 h2).oth p l1 hp h1
     rw [had p hp] at e
     exact absurd e this
    ·injection h2
   ·rw [if_neg hp] at h1
    rw [if_neg hq] at h2
    rw [had p hp,had q hq] at e
    exact f.oinj p q l1 l2 h1 h2 e
 ·rw [zaV] at hj
  by_cases e : j = i
  ·subst e
   rw [if_pos rfl] at hj
   split at hj
   ·have q := hown l hj
    exact ⟨q.nf,q.nx,q.is,q.nl,q.nc⟩
   ·injection hj
  ·rw [if_neg e] at hj
   rw [had j e]
   obtain ⟨a1,a2,⟨o,g⟩,a4,a5⟩ := f.own j l hj
   exact ⟨a1,a2,⟨o,keepB _ _ (hbo j l hj e) g⟩,a4,a5⟩
theorem zcw (H₀ : HereS cx ε n cf A env F₀ s₀ ρ ad m cm) (st : Step cx F₀ s₀ F s) {x : Str} {i : Nat} (hx : ε.vars.lookup x = some i) (hfree : ε.kinds.lookup x ≠ some .free) {v : Value} {sl : Slot}
  (had : ∀ j,j ≠ i → ad' j = ad j) (happ : ad' i = ad i ∨ ∀ j,slotAt ρ j ≠ .app i)
  (hv : ∀ h',(∀ a o,F a ∨ ¬ Mut env ρ ad a → s.heap.get? a = some o → h'.get? a = some o) → SlotRep cx F h' ad' i (some v) sl)
  (hmu : ∀ l,sl = .own l → s₀.heap.get? (ad' i) = none ∧ ¬ F (ad' i) ∧ ¬ cx.X (ad' i) ∧ ∃ o,s.heap.get? (ad' i) = some o)
  {Q : Unit → Shared → Prop} {E : VP}
  (hQ : ∀ s' m' cm',(∀ a o, ¬ Mut env ρ ad a → s.heap.get? a = some o → s'.heap.get? a = some o) → StepS cx env F₀ s₀ ρ ad F s' (ρ.set i sl) ad' → Frm cx ε env F s' (ρ.set i sl) ad' m' cm' → Q () s') :
  wpAny (model cx.prog cx.w) A (storeName env x v) Q E s := by
 have H := H₀.step st
 have f := H.frm
 have notMut : ∀ l,sl = .own l → ¬ Mut env ρ ad (ad' i) := fun l hl hm => by
  obtain ⟨o,e⟩ := H₀.frm.isSome hm
  rw [(hmu l hl).1] at e; injection e
 have mkOwn : ∀ h',(∀ a o, ¬ Mut env ρ ad a → s.heap.get? a = some o → h'.get? a = some o) → ∀ l,sl = .own l → NewOwn cx env F h' ρ ad ad' i := by
  intro h' hk l hl
  obtain ⟨a1,a2,a3,o,a4⟩ := hmu l hl
  have nm := notMut l hl
  exact ⟨a2,a3,⟨o,hk _ _ nm a4⟩,fun e => nm (.inl e),fun n e => nm (.inr (.inl ⟨n,e⟩)),fun j l' hj hs e => nm (.inr (.inr ⟨j,l',hs,e.symm⟩))⟩
 have others : ∀ y j,ε.vars.lookup y = some j → j ≠ i → y ≠ x := fun y j hy hj e => hj (by subst e; rw [hx] at hy; exact (Option.some.inj hy).symm)
 have same : ∀ y,ε.vars.lookup y = some i → y = x := fun y hy => H.sc.inj y x i hy hx
 rcases f.en.vars x i hx with ⟨hk,_⟩ | ⟨hk,⟨c,hc⟩,_⟩
 ·have hl : env.kindOf x = some .local := by unfold Env.kindOf; rw [f.en.names]; exact hk
  have hp : (env.scope.kind == .class || (env.scope.kind == .module && env.locals != env.globals)) = false := by rw [f.en.kind]; rfl
  refine wpAny_storeName_local hl f.en.ns (fun h' hn sb => ?_) hp
  have hb : Mut env ρ ad env.locals := .inl rfl
  have hk1 : ∀ a o, ¬ Mut env ρ ad a → s.heap.get? a = some o → h'.get? a = some o := fun a o nm e => (sb.2 a fun e => nm (e ▸ hb)).trans e
  have hk2 : ∀ a o,F a ∨ ¬ Mut env ρ ad a → s.heap.get? a = some o → h'.get? a = some o := fun a o nm e => nm.elim (fun h => (sb.2 a fun e => f.lf (e ▸ h)).trans e) fun h => hk1 a o h e
  refine hQ _ (fun y => if y = x then some v else m y) cm hk1 (zd9 H₀ st hb sb _ (fun l hl => .inr (hmu l hl).1) had) ?_
  refine Frm.put H hb sb _ hn (fun n c hc => ?_) (fun y j hy hj => ⟨if_neg (others y j hy hj),rfl⟩) (fun y hy => ?_) had happ (fun j l hs _ => (f.own j l hs).2.2.2.1) (mkOwn h' hk1)
  ·obtain ⟨o,g,d⟩ := f.en.cells n c hc
   exact ⟨o,(sb.2 c (f.cf n c hc).2).trans g,d⟩
  ·have ey := same y hy
   refine ⟨fun _ => ?_,fun h => absurd (ey ▸ hk) h⟩
   show SlotRep cx F h' ad' i (if y = x then some v else m y) sl
   rw [if_pos ey]
   exact hv h' hk2
 ·have hl : env.kindOf x = some .cell := by
   unfold Env.kindOf; rw [f.en.names]
   exact hk.resolve_right hfree
  refine wpAny_storeName_cell f.en.kind hl hc (f.en.cells x c hc) (fun h' hn sb => ?_)
  have hb : Mut env ρ ad c := .inr (.inl ⟨x,hc⟩)
  have hk1 : ∀ a o, ¬ Mut env ρ ad a → s.heap.get? a = some o → h'.get? a = some o := fun a o nm e => (sb.2 a fun e => nm (e ▸ hb)).trans e
  have hk2 : ∀ a o,F a ∨ ¬ Mut env ρ ad a → s.heap.get? a = some o → h'.get? a = some o := fun a o nm e => nm.elim (fun h => (sb.2 a fun e => (f.cf x c hc).1 (e ▸ h)).trans e) fun h => hk1 a o h e
  refine hQ _ m (fun y => if y = x then some v else cm y) hk1 (zd9 H₀ st hb sb s.toks (fun l hl => .inr (hmu l hl).1) had) ?_
  refine Frm.put H hb sb _ (f.en.ns.sameBut sb (Ne.symm (f.cf x c hc).2)) (fun n c' hc' => ?_) (fun y j hy hj => ⟨rfl,if_neg (others y j hy hj)⟩) (fun y hy => ?_) had happ (fun j l hs _ e => (f.own j l hs).2.2.2.2 x (e ▸ hc)) (mkOwn h' hk1)
  ·by_cases e : n = x
   ·subst e
    rw [hc] at hc'; (injection hc' with hc'; subst hc')
    rw [if_pos rfl]
    exact hn
   ·rw [if_neg e]
    obtain ⟨o,g,d⟩ := f.en.cells n c' hc'
    exact ⟨o,(sb.2 c' fun e' => e (f.cinj n x c (e' ▸ hc') hc)).trans g,d⟩
  ·have ey := same y hy
   refine ⟨fun h => ?_,fun _ => ?_⟩
   ·rw [ey] at h; rw [h] at hk; rcases hk with hk | hk <;> (injection hk with hk; injection hk)
   ·show SlotRep cx F h' ad' i (if y = x then some v else cm y) sl
    rw [if_pos ey]
    exact hv h' hk2
theorem zd3 (H₀ : HereS cx ε n cf A env F₀ s₀ ρ ad m cm) (st : Step cx F₀ s₀ F s) {x : Str} {i : Nat} (hx : ε.vars.lookup x = some i) (hfree : ε.kinds.lookup x ≠ some .free) {v : Value} {sl : Slot}
  (had : ∀ j,j ≠ i → ad' j = ad j) (happ : ad' i = ad i ∨ ∀ j,slotAt ρ j ≠ .app i)
  (hv : ∀ h',(∀ a o,F a ∨ ¬ Mut env ρ ad a → s.heap.get? a = some o → h'.get? a = some o) → SlotRep cx F h' ad' i (some v) sl)
  (hmu : ∀ l,sl = .own l → s₀.heap.get? (ad' i) = none ∧ ¬ F (ad' i) ∧ ¬ cx.X (ad' i) ∧ ∃ o,s.heap.get? (ad' i) = some o)
  {Q : Unit → Shared → Prop} {E : VP}
  (hQ : ∀ s' m' cm',StepS cx env F₀ s₀ ρ ad F s' (ρ.set i sl) ad' → Frm cx ε env F s' (ρ.set i sl) ad' m' cm' → Q () s') :
  wpAny (model cx.prog cx.w) A (storeName env x v) Q E s := zcw H₀ st hx hfree had happ hv hmu fun s' m' cm' _ => hQ s' m' cm'
end
section
variable {cx : XCx} {ε : Sc} {n : Nat} {cf : CfT} {A : Around} {env : Env} {F F₀ F' : AP} {s s₀ s' : Shared} {ρ ρ' : List Slot} {ad ad' : NAd} {m cm m' cm' : SV}
theorem StepS.rep (x : StepS cx env F s ρ ad F' s' ρ' ad') (H : HereS cx ε n cf A env F s ρ ad m cm) {v : Value} {d : D} (r : Rep cx.T F s.heap v d) : Rep cx.T F' s'.heap v d :=
 r.mono x.sub fun a o f e => x.keep a o e (H.wd.nx a f) fun hm => (H.frm.notF hm).1 f
theorem StepS.repL (x : StepS cx env F s ρ ad F' s' ρ' ad') (H : HereS cx ε n cf A env F s ρ ad m cm) {v : List Value} {d : List D} (r : RepL cx.T F s.heap v d) : RepL cx.T F' s'.heap v d :=
 r.mono x.sub fun a o f e => x.keep a o e (H.wd.nx a f) fun hm => (H.frm.notF hm).1 f
theorem zb1 (H₀ : HereS cx ε n cf A env F₀ s₀ ρ ad m cm) (st : Step cx F₀ s₀ F s) {x : Str} {i : Nat} (hx : ε.vars.lookup x = some i) (hfree : ε.kinds.lookup x ≠ some .free) {v : Value} {d : D} (hv : Rep cx.T F s.heap v d)
  {Q : Unit → Shared → Prop} {E : VP}
  (hQ : ∀ s' m' cm',StepS cx env F₀ s₀ ρ ad F s' (ρ.set i (.val d)) ad → Frm cx ε env F s' (ρ.set i (.val d)) ad m' cm' → Q () s') :
  wpAny (model cx.prog cx.w) A (storeName env x v) Q E s :=
 zd3 H₀ st hx hfree (sl := .val d) (ad' := ad) (fun _ _ => rfl) (.inl rfl) (fun h' hk => .val (hv.mono (fun _ h => h) fun a o f e => hk a o (.inl f) e)) (fun _ e => nomatch e) hQ
theorem zfC {x : X} {d : D} (h : ev1 cf x ρ = some d) : ∃ r,ev cf x ρ = some [r] ∧ r.fz = some d := by
 unfold ev1 at h
 split at h
 ·rename_i r e; exact ⟨r,e,h⟩
 ·injection h
theorem zcb (H : HereS cx ε n cf A env F s ρ ad m cm) {e : Expr} {x : X} (h : Sound cx ε e x) {d : D} (hd : ev1 cf x ρ = some d) {Q E : VP}
  (hQ : ∀ v F' s',Step cx F s F' s' → Rep cx.T F' s'.heap v d → Q v s') : wpAny (model cx.prog cx.w) A (eval e env) Q E s := by
 obtain ⟨r,e1,e2⟩ := zfC hd
 refine h.ev n cf A env F s ρ ad m cm H.here r e1 _ _ fun v F' s' st q => ?_
 obtain ⟨F'',st',_,q'⟩ := st.fz H.ok H.wd q e2
 exact hQ v F'' s' st' q'
end
section
variable {cx : XCx} {ε : Sc}
theorem zdw {pos : Pos} : SoundS cx ε (.Break pos) .brk := by
 intro n cf A env F s ρ ad m cm H ρ' o h Q E hQ
 replace h := (zjS cf).symm.trans h; (injection h with h; injection h with h z; subst h z)
 exact wpAny_Break (hQ .brk F s ad m cm (StepS.refl H.wd) H.frm .brk)
theorem zd6 {pos : Pos} : SoundS cx ε (.Continue pos) .cont := by
 intro n cf A env F s ρ ad m cm H ρ' o h Q E hQ
 replace h := (zk7 cf).symm.trans h; (injection h with h; injection h with h z; subst h z)
 exact wpAny_Continue (hQ .cont F s ad m cm (StepS.refl H.wd) H.frm .cont)
theorem zal {e : Expr} {x : X} {pos : Pos} (hx : Sound cx ε e x) : SoundS cx ε (.Return (some e) pos) (.ret x) := by
 intro n cf A env F s ρ ad m cm H ρ' o h Q E hQ
 replace h := (zg6 cf).symm.trans h
 obtain ⟨d,hd,e'⟩ := Option.map_eq_some_iff.mp h
 (injection e' with e' z; subst e' z)
 refine wpAny_Return_some (zcb H hx hd fun v F' s' st q => ?_)
 exact hQ _ F' s' ad m cm (.ofStep st) (H.step st).frm (.ret q)
theorem zag {c : Expr} {x : X} {bs es : List Stmt} {a b : S} {pos : Pos} (hx : Sound cx ε c x) (ha : SoundSs cx ε bs a) (hb : SoundSs cx ε es b) : SoundS cx ε (.If c bs es pos) (.ite x a b) := by
 intro n cf A env F s ρ ad m cm H ρ' o h Q E hQ
 replace h := (zjR cf).symm.trans h
 split at h
 ·rename_i e
  refine wpAny_If (hx.tr n cf A env F s ρ ad m cm H.here true e _ _ fun F' s' st => ?_)
  show wpAny _ _ _ _ _ _
  exact ha n cf A env F' s' ρ ad m cm (H.step st) ρ' o h _ _ (hQ.after (.ofStep st))
 ·rename_i e
  refine wpAny_If (hx.tr n cf A env F s ρ ad m cm H.here false e _ _ fun F' s' st => ?_)
  show wpAny _ _ _ _ _ _
  exact hb n cf A env F' s' ρ ad m cm (H.step st) ρ' o h _ _ (hQ.after (.ofStep st))
 ·injection h
theorem zff {c : Expr} {x : X} {msg : Option Expr} {pos : Pos} (hx : Sound cx ε c x) : SoundS cx ε (.Assert c msg pos) (.assert x) := by
 intro n cf A env F s ρ ad m cm H ρ' o h Q E hQ
 replace h := (zil cf).symm.trans h
 split at h
 ·rename_i e
  (injection h with h; injection h with h z; subst h z)
  refine wpAny_Assert_holds (hx.tr n cf A env F s ρ ad m cm H.here true e _ _ fun F' s' st => ?_)
  exact ⟨rfl,hQ .next F' s' ad m cm (.ofStep st) (H.step st).frm .next⟩
 ·injection h
theorem zad {x : Str} {i : Nat} {e : Expr} {y : X} {pos' pos : Pos} (hx : ε.vars.lookup x = some i) (hf : ε.kinds.lookup x ≠ some .free) (h : Sound cx ε e y) (hs : ∀ env : Env,env.scope.kind = .function → env.scope.names = ε.kinds → swapsWith e (some (.Name x pos')) pos.line env = pure false) :
  SoundS cx ε (.Assign [.Name x pos'] e pos) (.assign i y) := by
 intro n cf A env F s ρ ad m cm H ρ' o he Q E hQ
 replace he := (zcD cf).symm.trans he
 obtain ⟨d,hd,e'⟩ := Option.map_eq_some_iff.mp he
 (injection e' with e' z; subst e' z)
 refine wpAny_Assign_Name (zcb H h hd fun v F' s' st q => ?_) (hs env H.frm.en.kind H.frm.en.names)
 exact zb1 H st hx hf q fun s'' m' cm' x f => hQ .next F' s'' ad m' cm' x f .next
theorem zhs {i : Nat} {ρ : List Slot} (h : noApp i ρ = true) : ∀ j,slotAt ρ j ≠ .app i := by
 intro j e
 unfold noApp at h
 rw [List.all_eq_true] at h
 unfold slotAt at e
 rw [List.getD_eq_getElem?_getD] at e
 cases hj : ρ[j]? with
 | none => rw [hj] at e; injection e
 | some sl =>
  rw [hj] at e
  have := h sl (List.mem_of_getElem? hj)
  have e' : sl = .app i := e
  subst e'
  simp at this
theorem zaH {x : Str} {i : Nat} {e : Expr} {y : X} {pos' pos : Pos} (hx : ε.vars.lookup x = some i) (hf : ε.kinds.lookup x ≠ some .free) (h : Sound cx ε e y) (hs : ∀ env : Env,env.scope.kind = .function → env.scope.names = ε.kinds → swapsWith e (some (.Name x pos')) pos.line env = pure false) :
  SoundS cx ε (.Assign [.Name x pos'] e pos) (.assignO i y) := by
 intro n cf A env F s ρ ad m cm H ρ' o he Q E hQ
 replace he := (zcU cf).symm.trans he
 split at he
 ·rename_i hna
  split at he
  ·rename_i l e1
   by_cases hd : dSlot i = true
   ·rw [if_pos hd] at he; injection he
   rw [if_neg hd] at he
   have hd : dSlot i = false := by simpa using hd
   (injection he with he; injection he with he z; subst he z)
   refine wpAny_Assign_Name (h.ev n cf A env F s ρ ad m cm H.here _ e1 _ _ fun v F' s' st q => ?_) (hs env H.frm.en.kind H.frm.en.names)
   cases q with
   | @own a vs k l lo nf nx g z q =>
    refine zd3 H st hx hf (sl := .own l) (ad' := fun j => if j = i then a else ad j) (fun j hj => if_neg hj) (.inr (zhs hna)) (fun h' hk => ?_) (fun l' _ => ?_) fun s'' m' cm' x f => hQ .next F' s'' _ m' cm' x f .next
    ·have nm : ¬ Mut env ρ ad a := fun hm => by
      obtain ⟨o,e⟩ := H.frm.isSome hm
      rw [lo] at e; injection e
     have : SlotRep cx F' h' (fun j => if j = i then a else ad j) i (some (.ref ((fun j => if j = i then a else ad j) i))) (.own l) := by
      refine .own (vs := vs) (n := k) ?_ ?_ ?_ z (q.mono (fun _ h => h) fun b o f e => hk b o (.inl f) e) hd <;> simp only [if_true]
      ·exact nf
      ·exact nx
      ·exact hk a _ (.inr nm) g
     simpa using this
    ·simp only [if_true]
     exact ⟨lo,nf,nx,_,g⟩
  ·rename_i d e1
   (injection he with he; injection he with he z; subst he z)
   refine wpAny_Assign_Name (h.ev n cf A env F s ρ ad m cm H.here _ e1 _ _ fun v F' s' st q => ?_) (hs env H.frm.en.kind H.frm.en.names)
   cases q with
   | val q => exact zb1 H st hx hf q fun s'' m' cm' x f => hQ .next F' s'' ad m' cm' x f .next
  ·injection he
 ·injection he
end
set_option genInjectivity false in
structure Iter (cx : XCx) (A : Around) (F₀ : AP) (s₀ : Shared) (items : List D) (I : Addr) (F : AP) (s : Shared) (fp wr : List Addr) (P : Nat → Value → Prop) (St : Nat → Heap → Prop) : Prop where
 st : Step cx F₀ s₀ F s
 W : ∀ A' : Around,A'.handled = none → Walks cx.prog cx.w A' I fp wr items.length P St
 s0 : St 0 s.heap
 new : ∀ b ∈ wr,s₀.heap.get? b = none ∧ ¬ F b
 one : ∀ b ∈ wr,b = I
 deps : ∀ b ∈ fp,b ∈ wr ∨ F b
 item : ∀ i v,P i v → ∃ d,items[i]? = some d ∧ Rep cx.T F s.heap v d
 ty : ∀ i h,St i h → ∃ o T,h.get? I = some o ∧ o.cls = .type T ∧ ["enumerate", "zip", "dict_itemiterator", "dict_reverseitemiterator", "odict_iterator", "itertools.zip_longest", "itertools.pairwise"].contains T = false
 lim : items.length ≤ lim
noncomputable def SoundI (cx : XCx) (ε : Sc) (it : Expr) (x : X) : Prop :=
 ∀ n cf A env F s ρ ad m cm,Here cx ε n cf A env F s ρ ad m cm → ∀ items,evI cf x ρ = some items → ∀ (Q E : VP),
  (∀ I F' s' fp wr P St,Iter cx A F s items I F' s' fp wr P St → Q (.ref I) s') →
  wpAny (model cx.prog cx.w) A (eval it env) (fun v s₁ => wpAny (model cx.prog cx.w) A (pyIter v) Q E s₁) E s
noncomputable def SoundA (cx : XCx) (ε : Sc) (target : Expr) (put : D → List Slot → Option (List Slot)) : Prop :=
 ∀ n cf A env F s ρ ad m cm,HereS cx ε n cf A env F s ρ ad m cm → ∀ v d ρ',Rep cx.T F s.heap v d → put d ρ = some ρ' → ∀ (Q : Unit → Shared → Prop) (E : VP),
  (∀ F' s' m' cm',StepS cx env F s ρ ad F' s' ρ' ad → Frm cx ε env F' s' ρ' ad m' cm' → Q () s') → wpAny (model cx.prog cx.w) A (assign target env v) Q E s
section
variable {cx : XCx} {ε : Sc} {n : Nat} {cf : CfT} {A : Around} {env : Env} {F F₀ F' : AP} {s s₀ s' : Shared} {ρ ρ' : List Slot} {ad ad' : NAd} {m cm m' cm' : SV}
theorem Frm.kept (f : Frm cx ε env F s ρ ad m cm) {h' : Heap} (k : Nat) (hk : ∀ a o,F a ∨ Mut env ρ ad a → s.heap.get? a = some o → h'.get? a = some o) :
  Frm cx ε env F { s with heap := h',toks := k } ρ ad m cm := by
 have hl : Mut env ρ ad env.locals := .inl rfl
 have slots : ∀ j ov,SlotRep cx F s.heap ad j ov (slotAt ρ j) → SlotRep cx F h' ad j ov (slotAt ρ j) := by
  intro j ov q
  have hm : ∀ l,slotAt ρ j = .own l → Mut env ρ ad (ad j) := fun l e => .inr (.inr ⟨j,l,e,rfl⟩)
  generalize slotAt ρ j = x at q hm
  cases q with
  | unset => exact .unset
  | val q => exact .val (q.mono (fun _ h => h) fun a o f e => hk a o (.inl f) e)
  | own nf nx g z q hd => exact .own nf nx (hk _ _ (.inr (hm _ rfl)) g) z (q.mono (fun _ h => h) fun a o f e => hk a o (.inl f) e) hd
  | dic nf nx sm g q z hd =>
   obtain ⟨o,es,ep,ho,r⟩ := g
   exact .dic nf nx sm ⟨o,es,ep,hk _ _ (.inr (hm _ rfl)) ho,r⟩ (q.mono (fun _ h => h) fun a o f e => hk a o (.inl f) e) z hd
  | fdic fb sm g q z =>
   obtain ⟨o,es,ep,ho,r⟩ := g
   exact .fdic fb sm ⟨o,es,ep,hk _ _ (.inl fb) ho,r⟩ (q.mono (fun _ h => h) fun a o f e => hk a o (.inl f) e) z
  | app fb g e => exact .app fb (hk _ _ (.inl fb) g) e
 refine ⟨⟨f.en.kind,f.en.names,f.en.glob,f.en.blt,f.en.code,f.en.lx,f.en.cxx,f.en.ns.at' fun o e => hk _ o (.inr hl) e,fun n c hc => let ⟨o,g,d⟩ := f.en.cells n c hc; ⟨o,hk _ o (.inr (.inr (.inl ⟨n,hc⟩))) g,d⟩,
  fun y i hy => (f.en.vars y i hy).imp (fun ⟨k,q⟩ => ⟨k,slots i _ q⟩) fun ⟨k,c,q⟩ => ⟨k,c,slots i _ q⟩⟩,f.lf,f.cf,f.cinj,f.oinj,fun i l hi => ?_⟩
 obtain ⟨a1,a2,⟨o,g⟩,a4,a5⟩ := f.own i l hi
 exact ⟨a1,a2,⟨o,hk _ _ (.inr (.inr (.inr ⟨i,l,hi,rfl⟩))) g⟩,a4,a5⟩
theorem StepS.kept (ok : CxOk cx) (w₀ : Wd cx F₀ s₀) (x : StepS cx env F₀ s₀ ρ ad F s ρ' ad') (f : Frm cx ε env F s ρ' ad' m cm) {wr : List Addr} (hw : ∀ b ∈ wr,s₀.heap.get? b = none ∧ ¬ F b ∧ ¬ Mut env ρ' ad' b) {h' : Heap} (k : Nat)
  (hk : ∀ a o,a ∉ wr → s.heap.get? a = some o → h'.get? a = some o) : StepS cx env F₀ s₀ ρ ad F { s with heap := h',toks := k } ρ' ad' ∧ Frm cx ε env F { s with heap := h',toks := k } ρ' ad' m cm := by
 have nf : ∀ a,F a → a ∉ wr := fun a h hm => (hw a hm).2.1 h
 have nm : ∀ a,Mut env ρ' ad' a → a ∉ wr := fun a h hm => (hw a hm).2.2 h
 have nx : ∀ a,cx.X a → a ∉ wr := fun a h hm => by
  obtain ⟨o,e⟩ := w₀.xex a h
  rw [(hw a hm).1] at e; injection e
 have w := x.wd
 refine ⟨⟨x.sub,x.new,fun a o e ax am => ?_,x.os,⟨fun a o e ax => hk a o (nf a (w.f0 a o e ax)) (w.base a o e ax),ok.xi _ _ _ _ w.xi (fun _ h => h) (fun a o h e => hk a o (h.elim (nf a) (nx a)) e),w.gens,w.f0,fun a h => let ⟨o,e⟩ := w.lt a h; ⟨o,hk a o (nf a h) e⟩,w.nx,fun a h => let ⟨o,e⟩ := w.xex a h; ⟨o,hk a o (nx a h) e⟩⟩,x.mu⟩,f.kept k fun a o h e => hk a o (h.elim (nf a) (nm a)) e⟩
 refine hk a o (fun hm => ?_) (x.keep a o e ax am)
 rw [(hw a hm).1] at e; injection e
end
section
variable {cx : XCx} {ε : Sc}
theorem zgE {x : Str} {i : Nat} {p : Pos} (hx : ε.vars.lookup x = some i) (hf : ε.kinds.lookup x ≠ some .free) : SoundA cx ε (.Name x p) (put1 i) := by
 intro n cf A env F s ρ ad m cm H v d ρ' hv hp Q E hQ
 (injection hp with hp; subst hp)
 exact wpAny_assign_Name (zb1 H (Step.refl H.wd) hx hf hv fun s' m' cm' x f => hQ F s' m' cm' x f)
inductive WhI (cx : XCx) (ε : Sc) (env : Env) (F : AP) (s : Shared) (ρ : List Slot) (ad : NAd) (go : Nat → List Slot → Option (List Slot × Out)) (res : Option (List Slot × Out)) (k : Nat) (s' : Shared) : Prop
 | mk (F' : AP) (ρ₁ : List Slot) (ad₁ : NAd) (m₁ cm₁ : SV) (x1 : StepS cx env F s ρ ad F' s' ρ₁ ad₁) (f1 : Frm cx ε env F' s' ρ₁ ad₁ m₁ cm₁) (hg : go k ρ₁ = res)
theorem zbA {c : Expr} {x : X} {bs : List Stmt} {b : S} {pos : Pos} (hx : Sound cx ε c x) (hb : SoundSs cx ε bs b) : SoundS cx ε (.While c bs [] pos) (.while x b) := by
 intro n cf A env F s ρ ad m cm H ρ' o h Q E hQ
 replace h := (zge cf).symm.trans h
 refine wpAny_While ?_
 refine codeAny_whileLoop (WhI cx ε env F s ρ ad (whileGo (evT cf x) (ex cf b)) (some (ρ',o))) (fun k s' hI => ?_) Mine.wf
  ⟨F,ρ,ad,m,cm,StepS.refl H.wd,H.frm,h⟩
 obtain ⟨F',ρ₁,ad₁,m₁,cm₁,x1,f1,hg⟩ := hI
 have H1 := H.stepS x1 f1
 cases k with
 | zero => injection hg
 | succ k =>
  cases e : evT cf x ρ₁ with
  | none => unfold whileGo at hg; rw [e] at hg; injection hg
  | some c =>
   refine hx.tr n cf A env F' s' ρ₁ ad₁ m₁ cm₁ H1.here c e _ _ fun F2 s2 st => ?_
   cases c with
   | false =>
    replace hg : some (ρ₁,Out.next) = some (ρ',o) := by unfold whileGo at hg; rw [e] at hg; exact hg
    cases hg
    show wpAny _ _ _ _ _ _
    exact wpAny_execs_nil (hQ .next F2 s2 ad₁ m₁ cm₁ (x1.trans (.ofStep st)) (H1.step st).frm .next)
   | true =>
    show wpAny _ _ _ _ _ _
    cases e2 : ex cf b ρ₁ with
    | none => unfold whileGo at hg; rw [e] at hg; simp only [e2] at hg; injection hg
    | some y =>
     obtain ⟨ρ₂,o₂⟩ := y
     refine hb n cf A env F2 s2 ρ₁ ad₁ m₁ cm₁ (H1.step st) ρ₂ o₂ e2 _ _ fun f F3 s3 ad3 m3 cm3 x3 f3 q => ?_
     have x4 := (x1.trans (.ofStep st)).trans x3
     unfold whileGo at hg
     rw [e] at hg
     simp only [e2] at hg
     cases q with
     | next => exact ⟨k,Nat.lt_succ_self k,F3,ρ₂,ad3,m3,cm3,x4,f3,hg⟩
     | cont => exact ⟨k,Nat.lt_succ_self k,F3,ρ₂,ad3,m3,cm3,x4,f3,hg⟩
     | brk => cases hg; exact hQ .next F3 s3 ad3 m3 cm3 x4 f3 .next
     | ret r => cases hg; exact hQ _ F3 s3 ad3 m3 cm3 x4 f3 (.ret r)
theorem zhx {A : Around} {s : Shared} {E : VP} {target : Expr} {I : Addr} {v : Value} {Q : Unit → Shared → Prop} {o : Obj} {T : String} (hg : s.heap.get? I = some o) (hc : o.cls = .type T)
  (hT : ["enumerate", "zip", "dict_itemiterator", "dict_reverseitemiterator", "odict_iterator", "itertools.zip_longest", "itertools.pairwise"].contains T = false) (h : Q () s) :
  wpAny (model cx.prog cx.w) A (letOwnedTupleGo target (.ref I) v) Q E s := by
 have key : ∀ es k p,wpAny (model cx.prog cx.w) A (letOwnedTupleGo (.Tuple es k p) (.ref I) v) Q E s := by
  intro es k p
  cases v with
  | ref a =>
   show wpAny _ _ (load I >>= _) Q E s
   refine wb (wpAny_load hg ?_)
   rw [hc]
   generalize o.data = dd
   cases dd with
   | fields vs =>
    show wpAny _ _ (if (_ && _) = true then _ else _) Q E s
    rw [hT]
    exact wpAny_pure h
   | _ => exact wpAny_pure h
  | _ => exact wpAny_pure h
 cases target with
 | Tuple es k p => exact key es k p
 | List es p => exact key [] 0 p
 | _ => exact wpAny_pure h
set_option genInjectivity false in
structure IterG (cx : XCx) (A : Around) (target : Expr) (F₀ : AP) (s₀ : Shared) (items : List D) (I : Addr) (F : AP) (s : Shared) (wr : List Addr) (Inv : Nat → Heap → Prop) (TR : (Addr → Prop) → Heap → Value → D → Prop) : Prop where
 st : Step cx F₀ s₀ F s
 i0 : Inv 0 s.heap
 new : ∀ b ∈ wr,s₀.heap.get? b = none ∧ ¬ F b
 live : ∀ j h,Inv j h → ∀ b ∈ wr, ∃ o,h.get? b = some o
 frame : ∀ j h h',Inv j h → (∀ b,b ∈ wr ∨ F b → ∀ o,h.get? b = some o → h'.get? b = some o) → Inv j h'
 next : ∀ j (s' : Shared) (F' : AP) (K : VP) (N : Shared → Prop) (E : VP),j < items.length → Inv j s'.heap → (∀ v d,Rep cx.T F s.heap v d → Rep cx.T F' s'.heap v d) → (∀ b ∈ wr, ¬ F' b) →
  (∀ v h' tk d,items[j]? = some d → TR F' h' v d → Inv (j + 1) h' → (∀ b o,b ∉ wr → s'.heap.get? b = some o → h'.get? b = some o) → K v { s' with heap := h',toks := tk }) →
  wpAny (model cx.prog cx.w) A (pyNext (.ref I)) (fun r s₁ => match r with | none => N s₁ | some v => wpAny (model cx.prog cx.w) A (letOwnedTupleGo target (.ref I) v) (fun _ s₂ => K v s₂) E s₁) E s'
 done : ∀ (s' : Shared) (K : VP) (N : Shared → Prop) (E : VP),Inv items.length s'.heap → (∀ h' tk,(∀ b o,b ∉ wr → s'.heap.get? b = some o → h'.get? b = some o) → N { s' with heap := h',toks := tk }) →
  wpAny (model cx.prog cx.w) A (pyNext (.ref I)) (fun r s₁ => match r with | none => N s₁ | some v => wpAny (model cx.prog cx.w) A (letOwnedTupleGo target (.ref I) v) (fun _ s₂ => K v s₂) E s₁) E s'
theorem Iter.gen {A : Around} (hh : A.handled = none) {target : Expr} {F₀ F : AP} {s₀ s : Shared} {items : List D} {I : Addr} {fp wr : List Addr} {P : Nat → Value → Prop} {St : Nat → Heap → Prop} (J : Iter cx A F₀ s₀ items I F s fp wr P St) :
  IterG cx A target F₀ s₀ items I F s wr St (Rep cx.T) := by
 refine ⟨J.st,J.s0,J.new,fun j h hs b hb => ?_,fun j h h' hs hk => (J.W A hh).frame _ _ _ hs fun b hb => hk b (J.deps b hb),fun j s' F' K N E hlt hst hrep hnw hQ => ?_,fun s' K N E hst hQ => ?_⟩
 ·obtain ⟨o,_,g,_⟩ := J.ty _ _ hs
  exact J.one b hb ▸ ⟨o,g⟩
 ·refine (J.W A hh).item j s' _ _ hlt hst fun v h' tk hP hst' hk => ?_
  obtain ⟨d,hd,hr⟩ := J.item j v hP
  obtain ⟨ob,T,g1,g2,g3⟩ := J.ty _ _ hst'
  exact zhx (s := { s' with heap := h',toks := tk }) g1 g2 g3 (hQ v h' tk d hd ((hrep v d hr).mono (fun _ h => h) fun a o f e => hk a o (fun hm => hnw a hm f) e) hst' hk)
 ·exact (J.W A hh).done s' _ _ hst fun h' tk hk => hQ h' tk hk
inductive ForI (cx : XCx) (ε : Sc) (env : Env) (F : AP) (s : Shared) (ρ : List Slot) (ad : NAd) (F0 : AP) (h0 : Heap) (wr : List Addr) (St : Nat → Heap → Prop) (items : List D) (go : List D → List Slot → Option (List Slot × Out)) (res : Option (List Slot × Out)) (k : Nat) (s' : Shared) : Prop
 | mk (j : Nat) (F' : AP) (ρ₁ : List Slot) (ad₁ : NAd) (m₁ cm₁ : SV) (hj : j ≤ items.length) (hk : k = items.length - j) (x1 : StepS cx env F s ρ ad F' s' ρ₁ ad₁) (hrep : ∀ v d,Rep cx.T F0 h0 v d → Rep cx.T F' s'.heap v d) (hF : ∀ a,F0 a → F' a) (f1 : Frm cx ε env F' s' ρ₁ ad₁ m₁ cm₁) (hst : St j s'.heap)
  (hwr : ∀ b ∈ wr, ¬ F' b ∧ ¬ Mut env ρ₁ ad₁ b) (hg : go (items.drop j) ρ₁ = res)
set_option genInjectivity false in
structure ForL (cx : XCx) (env : Env) (F0 : AP) (h0 : Heap) (wr : List Addr) (St : Nat → Heap → Prop) (j : Nat) (F4 : AP) (h4 : Heap) (ρ4 : List Slot) (ad4 : NAd) : Prop where
 p1 : ∀ v d,Rep cx.T F0 h0 v d → Rep cx.T F4 h4 v d
 p2 : ∀ a,F0 a → F4 a
 p3 : St j h4
 p4 : ∀ b ∈ wr, ¬ F4 b ∧ ¬ Mut env ρ4 ad4 b
theorem zjK {target : Expr} {put : D → List Slot → Option (List Slot)} {it : Expr} {bs : List Stmt} {b : S} {pos : Pos} {TR : (Addr → Prop) → Heap → Value → D → Prop} (hb : SoundSs cx ε bs b)
  (hs : ∀ env x,foldedSetIterable it env x = pure x) {n cf A env F s ρ ad m cm} (H : HereS cx ε n cf A env F s ρ ad m cm) {items : List D}
  (ht : ∀ F s ρ m cm ad,HereS cx ε n cf A env F s ρ ad m cm → ∀ v d ρ',TR F s.heap v d → put d ρ = some ρ' → ∀ (Q : Unit → Shared → Prop) (E : VP),(∀ F' s' m' cm',StepS cx env F s ρ ad F' s' ρ' ad → Frm cx ε env F' s' ρ' ad m' cm' → Q () s') → wpAny (model cx.prog cx.w) A (assign target env v) Q E s)
  (hi : ∀ (Q E : VP),(∀ I F' s' wr St,IterG cx A target F s items I F' s' wr St TR → Q (.ref I) s') → wpAny (model cx.prog cx.w) A (eval it env) (fun v s₁ => wpAny (model cx.prog cx.w) A (pyIter v) Q E s₁) E s)
  {ρ' : List Slot} {o : Out}
  (h : forGo put (ex cf b) items ρ = some (ρ',o)) {Q : Flow → Shared → Prop} {E : VP} (hQ : PostS cx ε env F s ρ ad ρ' o Q) : wpAny (model cx.prog cx.w) A (exec (.For target it bs [] pos) env) Q E s := by
 refine wpAny_For (hi _ _ fun I F0 s0 wr St J => ?_) (hs env)
 have hx0 : ∀ b ∈ wr, ¬ cx.X b := fun b hb h => by
  obtain ⟨o,e⟩ := H.wd.xex b h
  rw [(J.new b hb).1] at e; injection e
 refine codeAny_forLoop_any (ForI cx ε env F s ρ ad F0 s0.heap wr St items (forGo put (ex cf b)) (some (ρ',o))) (fun k s' hI => ?_) items.length
  ⟨0,F0,ρ,ad,m,cm,Nat.zero_le _,rfl,.ofStep J.st,fun _ _ h => h,fun _ h => h,(H.step J.st).frm,J.i0,fun b hb => ⟨(J.new b hb).2,fun hm => ?_⟩,h⟩
 rotate_left
 ·obtain ⟨o,e⟩ := H.frm.isSome hm
  rw [(J.new b hb).1] at e; injection e
 obtain ⟨j,F',ρ₁,ad₁,m₁,cm₁,hj,rfl,x1,hrep,hF,f1,hst,hwr,hg⟩ := hI
 have hwr' : ∀ b ∈ wr,s.heap.get? b = none ∧ ¬ F' b ∧ ¬ Mut env ρ₁ ad₁ b := fun b hb => ⟨(J.new b hb).1,(hwr b hb).1,(hwr b hb).2⟩
 rcases Nat.lt_or_ge j items.length with hlt | hge
 ·refine J.next j s' F' _ _ _ hlt hst hrep (fun b hb => (hwr b hb).1) fun v h' tk d hd htr hst' hk => ?_
  obtain ⟨x2,f2⟩ := x1.kept H.ok H.wd f1 hwr' tk hk
  have hdrop : items.drop j = d :: items.drop (j + 1) := by
   have h1 : items[j]? = some items[j] := List.getElem?_eq_getElem hlt
   rw [h1] at hd
   (injection hd with hd; subst hd)
   exact List.drop_eq_getElem_cons hlt
  rw [hdrop] at hg
  have keepF : ∀ a o,F' a → s'.heap.get? a = some o → h'.get? a = some o := fun a o f e => hk a o (fun hm => (hwr a hm).1 f) e
  have hr2 : ∀ v d,Rep cx.T F0 s0.heap v d → Rep cx.T F' h' v d := fun v d hr => (hrep v d hr).mono (fun _ h => h) keepF
  cases e2 : put d ρ₁ with
  | none => unfold forGo at hg; rw [e2] at hg; injection hg
  | some ρ₂ =>
  have H2 := H.stepS x2 f2
  refine ht F' _ ρ₁ m₁ cm₁ ad₁ H2 v d ρ₂ htr e2 _ _ fun F3 s3 m3 cm3 x3 f3 => ?_
  have H3 := H2.stepS x3 f3
  have later : ∀ {F4 s4 ρ4 ad4 m4 cm4},StepS cx env F' { s' with heap := h',toks := tk } ρ₁ ad₁ F4 s4 ρ4 ad4 → Frm cx ε env F4 s4 ρ4 ad4 m4 cm4 →
    ForL cx env F0 s0.heap wr St (j + 1) F4 s4.heap ρ4 ad4 := by
   intro F4 s4 ρ4 ad4 m4 cm4 y f4
   refine ⟨fun v d q => y.rep H2 (hr2 v d q),fun a h => y.sub a (hF a h),J.frame _ _ _ hst' fun b hb ob' e => ?_,fun b hb => ?_⟩
   ·rcases hb with hb | hb
    ·exact y.keep b ob' e (hx0 b hb) (hwr b hb).2
    ·exact y.keep b ob' e (H2.wd.nx b (hF b hb)) fun hm => (f2.notF hm).1 (hF b hb)
   ·obtain ⟨ob,g1⟩ := J.live _ _ hst' b hb
    refine ⟨fun h => ?_,fun h => ?_⟩
    ·rcases y.new b h with q | q | q
     ·exact (hwr b hb).1 q
     ·rw [show ({ s' with heap := h',toks := tk } : Shared).heap.get? b = some ob from g1] at q; injection q
     ·exact (hwr b hb).2 q
    ·rcases y.mu b h with q | q
     ·exact (hwr b hb).2 q
     ·rw [show ({ s' with heap := h',toks := tk } : Shared).heap.get? b = some ob from g1] at q; injection q
  cases e3 : ex cf b ρ₂ with
  | none => unfold forGo at hg; rw [e2] at hg; simp only [e3] at hg; injection hg
  | some pr =>
  obtain ⟨ρ₃,o3⟩ := pr
  replace hg : (match o3 with
   | .next => forGo put (ex cf b) (items.drop (j + 1)) ρ₃
   | .cont => forGo put (ex cf b) (items.drop (j + 1)) ρ₃
   | .brk => some (ρ₃,.next)
   | .ret d => some (ρ₃,.ret d)) = some (ρ',o) := by
   unfold forGo at hg
   rw [e2] at hg
   simp only [e3] at hg
   cases o3 <;> exact hg
  refine hb n cf A env F3 s3 ρ₂ ad₁ m3 cm3 H3 _ o3 e3 _ _ fun f F4 s4 ad4 m4 cm4 x4 f4 q => ?_
  have x24 := x2.trans (x3.trans x4)
  obtain ⟨p1,p2,p3,p4⟩ := later (x3.trans x4) f4
  have again : forGo put (ex cf b) (items.drop (j + 1)) ρ₃ = some (ρ',o) → ∃ m,m < items.length - j ∧ ForI cx ε env F s ρ ad F0 s0.heap wr St items (forGo put (ex cf b)) (some (ρ',o)) m s4 := fun hg =>
   ⟨items.length - (j + 1),Nat.sub_lt_sub_left hlt (Nat.lt_succ_self j),j + 1,F4,ρ₃,ad4,m4,cm4,hlt,rfl,x24,p1,p2,f4,p3,p4,hg⟩
  cases q with
  | next => exact again hg
  | cont => exact again hg
  | brk => cases hg; exact hQ .next F4 s4 ad4 m4 cm4 x24 f4 .next
  | ret r => cases hg; exact hQ _ F4 s4 ad4 m4 cm4 x24 f4 (.ret r)
 ·have ej : j = items.length := Nat.le_antisymm (by assumption) (by assumption)
  subst ej
  rw [List.drop_length] at hg
  cases hg
  refine J.done s' _ _ _ hst fun h' tk hk => ?_
  obtain ⟨x2,f2⟩ := x1.kept H.ok H.wd f1 hwr' tk hk
  exact wpAny_execs_nil (hQ .next F' _ ad₁ m₁ cm₁ x2 f2 .next)
theorem zjL {target : Expr} {put : D → List Slot → Option (List Slot)} {it : Expr} {x : X} {bs : List Stmt} {b : S} {pos : Pos} (ht : SoundA cx ε target put) (hi : SoundI cx ε it x) (hb : SoundSs cx ε bs b)
  (hs : ∀ env x,foldedSetIterable it env x = pure x) {n cf A env F s ρ ad m cm} (H : HereS cx ε n cf A env F s ρ ad m cm) {items : List D} (hit : evI cf x ρ = some items) {ρ' : List Slot} {o : Out}
  (h : forGo put (ex cf b) items ρ = some (ρ',o)) {Q : Flow → Shared → Prop} {E : VP} (hQ : PostS cx ε env F s ρ ad ρ' o Q) : wpAny (model cx.prog cx.w) A (exec (.For target it bs [] pos) env) Q E s :=
 zjK (TR := Rep cx.T) hb hs H (fun F s ρ m cm ad => ht n cf A env F s ρ ad m cm) (fun Q E k => hi n cf A env F s ρ ad m cm H.here items hit Q E fun I F' s' fp wr P St J => k I F' s' wr St (J.gen H.bud.hd)) h hQ
theorem zaP {x : Str} {i : Nat} {p : Pos} {it : Expr} {y : X} {bs : List Stmt} {b : S} {pos : Pos} (hx : ε.vars.lookup x = some i) (hf : ε.kinds.lookup x ≠ some .free) (hi : SoundI cx ε it y) (hb : SoundSs cx ε bs b)
  (hs : ∀ env x,foldedSetIterable it env x = pure x) : SoundS cx ε (.For (.Name x p) it bs [] pos) (.forE i y b) := by
 intro n cf A env F s ρ ad m cm H ρ' o h Q E hQ
 replace h := (zhE cf).symm.trans h
 split at h
 ·rename_i items e
  exact zjL (zgE hx hf) hi hb hs H e h hQ
 ·injection h
end
section
variable {cx : XCx} {ε : Sc}
theorem evI_seq {cf : CfT} {x : X} {ρ : List Slot} {items : List D} (h : evI cf (.seqI x) ρ = some items) : ∃ r d,ev cf x ρ = some [r] ∧ r.fz = some d ∧ itemsOf d = some items := by
 unfold evI at h
 split at h
 ·rename_i l e
  cases h
  replace e := (zbm _).symm.trans e
  split at e
  ·rename_i r e1
   split at e
   ·rename_i d e2
    obtain ⟨l',e3,e4⟩ := Option.map_eq_some_iff.mp e
    cases e4
    exact ⟨r,d,e1,e2,e3⟩
   ·injection e
  ·injection e
 ·injection h
theorem zda {A : Around} {F₀ F : AP} {s₀ s : Shared} {items : List D} {P : Nat → Value → Prop} {St : Nat → Heap → Prop} {fp : List Addr} {o : Obj} (ok : CxOk cx) (w₀ : Wd cx F₀ s₀) (st : Step cx F₀ s₀ F s)
  (W : ∀ A' : Around,A'.handled = none → Walks cx.prog cx.w A' s.heap.objs.size fp [s.heap.objs.size] items.length P St) (s0 : St 0 (s.heap.push o)) (deps : ∀ b ∈ fp,b = s.heap.objs.size ∨ F b)
  (item : ∀ i v,P i v → ∃ d,items[i]? = some d ∧ Rep cx.T F s.heap v d)
  (ty : ∀ i h,St i h → ∃ o T,h.get? s.heap.objs.size = some o ∧ o.cls = .type T ∧ ["enumerate", "zip", "dict_itemiterator", "dict_reverseitemiterator", "odict_iterator", "itertools.zip_longest", "itertools.pairwise"].contains T = false)
  (hl : items.length ≤ lim) (k : Nat) : Iter cx A F₀ s₀ items s.heap.objs.size F { s with heap := s.heap.push o,toks := k } fp [s.heap.objs.size] P St := by
 have stp := Step.push ok st.wd o k
 have fr := zaz s.heap
 refine ⟨st.trans stp,W,s0,fun b hb => ?_,fun b hb => by simpa using hb,fun b hb => (deps b hb).imp (fun e => by simp [e]) id,fun i v h => ?_,ty,hl⟩
 ·have e : b = s.heap.objs.size := by simpa using hb
  subst e
  exact ⟨st.fresh (st.wd.newNotX fr) fr,st.wd.newNotF fr⟩
 ·obtain ⟨d,e,r⟩ := item i v h
  exact ⟨d,e,stp.rep st.wd r⟩
theorem zk0 {A : Around} (hh : A.handled = none) {F₀ F : AP} {s₀ s : Shared} (ok : CxOk cx) (w₀ : Wd cx F₀ s₀) (st : Step cx F₀ s₀ F s) {v : Value} {d : D} (q : Rep cx.T F s.heap v d) {items : List D} (hi : itemsOf d = some items)
  {Q E : VP} (hQ : ∀ I F' s' fp wr P St,Iter cx A F₀ s₀ items I F' s' fp wr P St → Q (.ref I) s') : wpAny (model cx.prog cx.w) A (pyIter v) Q E s := by
 cases q with
 | @list a vs n l f g z q =>
  cases hi
  have hne : a ≠ s.heap.objs.size := Nat.ne_of_lt (Heap.lt_size g)
  have el : items.length = vs.toArray.size := by rw [List.size_toArray]; exact q.length.symm
  refine wpAny_pyIter_list (zaI g) (hQ _ F _ [s.heap.objs.size,a] [s.heap.objs.size] (fun i v => vs.toArray[i]? = some v) (fun i h => h.IsListIter s.heap.objs.size a i ∧ h.IsList a vs.toArray) ?_)
  refine zda (P := fun i v => vs.toArray[i]? = some v) ok w₀ st (fun A' hh => el ▸ Walks.list hh _ a hne vs.toArray) ⟨⟨_,Heap.get?_push_size _ rfl,rfl,rfl⟩,(zaI g).push _⟩ (fun b hb => ?_) (fun i v h => ?_) (fun i h hs => ?_) (by rw [← q.length]; exact z) s.toks
  ·simp only [List.mem_cons,List.not_mem_nil,or_false] at hb
   rcases hb with rfl | rfl
   ·exact .inl rfl
   ·exact .inr f
  ·rw [List.getElem?_toArray] at h
   exact q.getV h
  ·obtain ⟨⟨o,g,c,_⟩,_⟩ := hs
   exact ⟨o,_,g,c,by decide⟩
 | @tup a vs n l f g z q =>
  cases hi
  have hne : a ≠ s.heap.objs.size := Nat.ne_of_lt (Heap.lt_size g)
  have el : items.length = vs.toArray.size := by rw [List.size_toArray]; exact q.length.symm
  have ht : s.heap.IsTuple a vs.toArray := ⟨_,g,rfl,n,rfl⟩
  refine wpAny_pyIter_tuple ht (hQ _ F _ [s.heap.objs.size,a] [s.heap.objs.size] (fun i v => vs.toArray[i]? = some v) (fun i h => h.IsTupleIter s.heap.objs.size a i ∧ h.IsTuple a vs.toArray) ?_)
  refine zda (P := fun i v => vs.toArray[i]? = some v) ok w₀ st (fun A' hh => el ▸ Walks.tuple hh _ a hne vs.toArray) ⟨⟨_,Heap.get?_push_size _ rfl,rfl,rfl⟩,ht.push _⟩ (fun b hb => ?_) (fun i v h => ?_) (fun i h hs => ?_) (by rw [← q.length]; exact z) s.toks
  ·simp only [List.mem_cons,List.not_mem_nil,or_false] at hb
   rcases hb with rfl | rfl
   ·exact .inl rfl
   ·exact .inr f
  ·rw [List.getElem?_toArray] at h
   exact q.getV h
  ·obtain ⟨⟨o,g,c,_⟩,_⟩ := hs
   exact ⟨o,_,g,c,by decide⟩
 | @str l t p z =>
  (injection hi with hi; subst hi)
  have el : (l.map fun c => D.str [c]).length = (PySem.Str.mk l.toArray).cps.size := by simp
  have item : ∀ i v,SignAt ⟨l.toArray⟩ i v → ∃ d,(l.map fun c => D.str [c])[i]? = some d ∧ Rep cx.T F s.heap v d := by
   rintro i v ⟨c,u,e,rfl⟩
   rw [show (PySem.Str.mk l.toArray).cps = l.toArray from rfl,List.getElem?_toArray] at e
   refine ⟨.str [c],by rw [List.getElem?_map,e]; rfl,.str (l := [c]) u (fun c' h => ?_) (by simp [lim])⟩
   simp only [List.mem_cons,List.not_mem_nil,or_false] at h
   subst h
   exact p _ (List.mem_of_getElem? e)
  have hz : (l.map fun c => D.str [c]).length ≤ lim := by simpa using z
  have deps : ∀ b ∈ [s.heap.objs.size],b = s.heap.objs.size ∨ F b := fun b hb => .inl (by simpa using hb)
  cases ha : (PySem.Str.mk l.toArray).cps.all (· < 128)
  ·refine wpAny_pyIter_wide ha (hQ _ F _ _ _ _ _ (zda ok w₀ st (fun A' hh => el ▸ Walks.strWide hh _ ⟨l.toArray⟩ t) ⟨_,Heap.get?_push_size _ rfl,rfl,rfl⟩ deps item (fun i h hs => ?_) hz s.toks))
   obtain ⟨o,g,c,_⟩ := hs
   exact ⟨o,_,g,c,by decide⟩
  ·refine wpAny_pyIter_ascii ha (hQ _ F _ _ _ _ _ (zda ok w₀ st (fun A' hh => el ▸ Walks.strAscii hh _ ⟨l.toArray⟩ t) ⟨_,Heap.get?_push_size _ rfl,rfl,rfl⟩ deps item (fun i h hs => ?_) hz s.toks))
   obtain ⟨o,g,c,_⟩ := hs
   exact ⟨o,_,g,c,by decide⟩
 | _ => injection hi
theorem zaC {e : Expr} {x : X} (h : Sound cx ε e x) : SoundI cx ε e (.seqI x) := by
 intro n cf A env F s ρ ad m cm H items hi Q E hQ
 obtain ⟨r,d,e1,e2,e3⟩ := evI_seq hi
 refine h.ev n cf A env F s ρ ad m cm H r e1 _ _ fun v F' s' st q => ?_
 obtain ⟨F'',st',_,q'⟩ := st.fz H.ok H.wd q e2
 exact zk0 H.bud.hd H.ok H.wd st' q' e3 hQ
theorem zic {A : Around} (hh : A.handled = none) {F₀ F : AP} {s₀ s : Shared} (ok : CxOk cx) (w₀ : Wd cx F₀ s₀) (st : Step cx F₀ s₀ F s) {r : Addr} {a b c : Int} {t u v : Tok} (hr : IsRange s.heap r a b c t u v) (hs : Builtin.Range.small a b c = true)
  {k : Nat} (hk : Builtin.Range.rangeSize a b c = (k : Int)) (hl : k ≤ lim)
  {Q E : VP} (hQ : ∀ I F' s' fp wr P St,Iter cx A F₀ s₀ ((upTo k a c).map .int) I F' s' fp wr P St → Q (.ref I) s') : wpAny (model cx.prog cx.w) A (pyIter (.ref r)) Q E s := by
 have el : ((upTo k a c).map D.int).length = k := by simp [upTo]
 let P : Nat → Value → Prop := fun i v => i < k ∧ ∃ t,v = .int (a + i * c) t
 have W : ∀ A' : Around,A'.handled = none → Walks cx.prog cx.w A' s.heap.objs.size [s.heap.objs.size] [s.heap.objs.size] k P (fun i h => IsRangeIter h s.heap.objs.size (a + (i : Nat) * c) ((k : Int) - (i : Nat)) c) := fun A' hh => (Walks.range hh _ a c k).bound
 refine wpAny_pyIter_range hr hs (hQ _ F _ _ _ _ _ (zda (P := P) ok w₀ st (by rw [el]; exact W) ?_ (fun b hb => .inl (by simpa using hb)) ?_ (fun i h hs => ⟨_,_,hs,rfl,by decide⟩) (by rw [el]; exact hl) s.toks))
 ·have := Heap.get?_push_size s.heap (o := { cls := .type "range_iterator",data := .fields #[rawInt a,rawInt (Builtin.Range.rangeSize a b c),rawInt c] }) rfl
  show IsRangeIter _ _ _ _ _
  rw [hk] at this
  simpa [IsRangeIter,hk] using this
 ·rintro i v ⟨hi,t,rfl⟩
  refine ⟨.int (a + i * c), ?_,.int _ t⟩
  rw [List.getElem?_map]
  unfold upTo
  rw [List.getElem?_map,List.getElem?_range hi]
  simp [Int.mul_comm]
theorem zcy {i : Int} (h : small i = true) : -1000000000 ≤ i ∧ i ≤ 1000000000 := by
 unfold small at h
 simpa using h
theorem zd1 {z : Int} (h : z ≤ 1000000) : z.toNat ≤ lim := by unfold lim; omega
theorem zho (a b : Int) : (if a < b then b - a else 0) = ((b - a).toNat : Int) := by split <;> omega
theorem lo62 {i : Int} (h : -1000000000 ≤ i) : -(2 ^ 62) ≤ i := Int.le_trans (by decide) h
theorem hi62 {i : Int} (h : i ≤ 1000000000) : i < 2 ^ 62 := Int.lt_of_le_of_lt h (by decide)
inductive RangeI : List D → List D → Prop
 | one {i : Int} : -1000000000 ≤ i → i ≤ 1000000000 → i ≤ 1000000 → RangeI [.int i] (rangeL 0 i)
 | two {a i : Int} : -1000000000 ≤ a → a ≤ 1000000000 → -1000000000 ≤ i → i ≤ 1000000000 → i - a ≤ 1000000 → RangeI [.int a,.int i] (rangeL a i)
 | down {a i : Int} : -1000000000 ≤ a → a ≤ 1000000000 → -1000000000 ≤ i → i ≤ 1000000000 → a - i ≤ 1000000 → RangeI [.int a,.int i,.int (-1)] (rangeDown a i)
theorem ziW {ds l : List D} (hl : opRange ds = some l) : RangeI ds l := by
 rcases ds with _ | ⟨a0,t⟩
 ·injection hl
 cases a0 <;> try (injection hl; done)
 rename_i a
 rcases t with _ | ⟨a1,t⟩
 ·rename Int => i
  replace hl : (if (small i && decide (i ≤ 1000000)) = true then some (rangeL 0 i) else none) = some l := hl
  split at hl
  ·rename_i hi
   (injection hl with hl; subst hl)
   obtain ⟨h1,h2⟩ := Bool.and_eq_true _ _ ▸ hi
   obtain ⟨h3,h4⟩ := zcy h1
   exact .one h3 h4 (of_decide_eq_true h2)
  ·injection hl
 cases a1 <;> try (injection hl; done)
 rename_i i
 rcases t with _ | ⟨a2,t⟩
 ·replace hl : (if (small a && small i && decide (i - a ≤ 1000000)) = true then some (rangeL a i) else none) = some l := hl
  split at hl
  ·rename_i hi
   (injection hl with hl; subst hl)
   obtain ⟨h12,h5⟩ := Bool.and_eq_true _ _ ▸ hi
   obtain ⟨h1,h2⟩ := Bool.and_eq_true _ _ ▸ h12
   obtain ⟨h3,h4⟩ := zcy h1
   obtain ⟨h6,h7⟩ := zcy h2
   exact .two h3 h4 h6 h7 (of_decide_eq_true h5)
  ·injection hl
 cases a2 <;> try (injection hl; done)
 rename_i c
 rcases t with _ | ⟨a3,t⟩ <;> try (injection hl; done)
 replace hl : (if c = -1 ∧ small a ∧ small i ∧ a - i ≤ 1000000 then some (rangeDown a i) else none) = some l := hl
 split at hl
 ·rename_i hi
  (injection hl with hl; subst hl)
  obtain ⟨rfl,h1,h2,h5⟩ := hi
  obtain ⟨h3,h4⟩ := zcy h1
  obtain ⟨h6,h7⟩ := zcy h2
  exact .down h3 h4 h6 h7 h5
 ·injection hl
theorem zeY {A : Around} {F₀ F : AP} {s₀ s : Shared} (ok : CxOk cx) (st : Step cx F₀ s₀ F s) {vs : List Value} {ds : List D} (q : BRepL cx F s.heap vs ds) {l : List D} (hl : opRange ds = some l)
  {Q E : VP} (hQ : ∀ (r : Addr) (a b c : Int) (t u v : Tok) (k : Nat) (s' : Shared),Step cx F₀ s₀ F s' → IsRange s'.heap r a b c t u v → Builtin.Range.small a b c = true → Builtin.Range.rangeSize a b c = (k : Int) → k ≤ lim → l = (upTo k a c).map .int → Q (.ref r) s') :
  wpAny (model cx.prog cx.w) A (call (.type "range") vs) Q E s := by
 cases ziW hl with
 | @one i h3 h4 h2 =>
  obtain ⟨v,rfl,q1⟩ := q.one
  obtain ⟨t,rfl⟩ := q1.int_inv
  exact call_range_1 (hQ _ 0 i 1 _ _ _ (i - 0).toNat _ (st.trans (Step.push ok st.wd ({ cls := .type "range",data := .fields #[.int 0 s.toks,.int i t,.int 1 (s.toks + 1)] } : Obj) (s.toks + 1 + 1))) (IsRange.new s.heap 0 i 1 _ _ _) (small_one (by decide) (by decide) (lo62 h3) (hi62 h4)) (by rw [rangeSize_one,zho]) (zd1 (by rw [Int.sub_zero]; exact h2)) rfl)
 | @two a i h3 h4 h6 h7 h5 =>
  obtain ⟨v,v',rfl,q1,q2⟩ := q.two
  obtain ⟨t,rfl⟩ := q1.int_inv
  obtain ⟨u,rfl⟩ := q2.int_inv
  exact call_range_2 (hQ _ a i 1 _ _ _ (i - a).toNat _ (st.trans (Step.push ok st.wd ({ cls := .type "range",data := .fields #[.int a t,.int i u,.int 1 s.toks] } : Obj) (s.toks + 1))) (IsRange.new s.heap a i 1 _ _ _) (small_one (lo62 h3) (hi62 h4) (lo62 h6) (hi62 h7)) (by rw [rangeSize_one,zho]) (zd1 h5) rfl)
 | @down a i h3 h4 h6 h7 h5 =>
  cases q with
  | cons q1 q => cases q with | cons q2 q => cases q with | cons q3 q =>
  cases q
  obtain ⟨t,rfl⟩ := q1.int_inv
  obtain ⟨u,rfl⟩ := q2.int_inv
  obtain ⟨x,rfl⟩ := q3.int_inv
  exact call_range_3 (by decide) (hQ _ a i (-1) _ _ _ (a - i).toNat _ (st.trans (Step.push ok st.wd ({ cls := .type "range",data := .fields #[.int a t,.int i u,.int (-1) x] } : Obj) s.toks)) (IsRange.new s.heap a i (-1) _ _ _) (PySem.W.small_down (lo62 h3) (hi62 h4) (lo62 h6) (hi62 h7)) (PySem.W.rangeSize_downNat a i) (zd1 h5) rfl) (Or.inl (PyProof.noPylong_small (by decide)))
theorem zir {A : Around} {n : Nat} (hb : BudE n A) {F₀ F : AP} {s₀ s : Shared} (ok : CxOk cx) (w₀ : Wd cx F₀ s₀) (st : Step cx F₀ s₀ F s) {vs : List Value} {ds : List D} (q : BRepL cx F s.heap vs ds) {l : List D} (hl : opRange ds = some l)
  {Q E : VP} (hQ : ∀ I F' s' fp wr P St,Iter cx A F₀ s₀ l I F' s' fp wr P St → Q (.ref I) s') :
  wpAny (model cx.prog cx.w) A (call (.type "range") vs) (fun v s₁ => wpAny (model cx.prog cx.w) A (pyIter v) Q E s₁) E s :=
 zeY ok st q hl fun r a b c t u v k s' st' hr hs hk hl' e => zic hb.hd ok w₀ st' hr hs hk hl' (e ▸ hQ)
theorem zjX {cf : CfT} {x : X} {ρ : List Slot} {items : List D} (h : evI cf (.rangeI x) ρ = some items) : ∃ rs,ev cf x ρ = some rs ∧ opRange (rs.map R.ds) = some items := by
 unfold evI at h
 split at h
 ·rename_i l e
  cases h
  replace e := (zaJ _).symm.trans e
  split at e
  ·rename_i rs e1
   obtain ⟨l',e3,e4⟩ := Option.map_eq_some_iff.mp e
   cases e4
   exact ⟨rs,e1,e3⟩
  ·injection e
 ·injection h
theorem zaN {p pos : Pos} {es : List Expr} {x : X} (hk : ε.kinds.lookup ("range" : Str) = some .globalImplicit) (hg : cx.mg ("range" : Str) = none) (h : SoundL cx ε es x false) : SoundI cx ε (.Call (.Name "range" p) es [] pos) (.rangeI x) := by
 intro n cf A env F s ρ ad m cm H items hi Q E hQ
 obtain ⟨rs,e1,e2⟩ := zjX hi
 rw [zaw (by intro _ _ _ e; injection e)]
 refine wb (zaS H hk hg (by decide) (v := .type "range") (by rfl) (by decide) ?_)
 refine PyProof.Rows.callWith_type (zaK h) (za2 h H e1 fun vs F' s' st q => ?_)
 exact zir H.bud H.ok H.wd st q.brep e2 hQ
end
section
variable {cx : XCx} {ε : Sc} {n : Nat} {cf : CfT} {A : Around} {env : Env} {F F₀ F' : AP} {s s₀ s' : Shared} {ρ ρ' : List Slot} {ad ad' : NAd} {m cm m' cm' : SV}
theorem SlotRep.own_inv {h : Heap} {i : Nat} {ov : Option Value} {l : List D} (hd : dSlot i = false) (q : SlotRep cx F h ad i ov (.own l)) : ov = some (.ref (ad i)) ∧ ∃ vs k,h.get? (ad i) = some (lobj vs.toArray k) ∧ vs.length ≤ lim ∧ RepL cx.T F h vs l := by
 cases q with
 | own _ _ g z q => exact ⟨rfl,_,_,g,z,q⟩
 | dic _ _ _ _ _ _ hd' => rw [hd] at hd'; injection hd'
inductive OwnNow (cx : XCx) (F : AP) (h : Heap) (a : Addr) (l : List D) : Prop
 | mk (vs : List Value) (k : Nat) (g : h.get? a = some (lobj vs.toArray k)) (z : vs.length ≤ lim) (q : RepL cx.T F h vs l)
theorem zcQ (H : HereS cx ε n cf A env F s ρ ad m cm) {x : Str} {i : Nat} (hx : ε.vars.lookup x = some i) {l : List D} (hi : ownAt ρ i = some l) : OwnNow cx F s.heap (ad i) l := by
 have hs := (zcz hi).1
 rcases H.frm.en.vars x i hx with ⟨_,q⟩ | ⟨_,_,q⟩ <;> rw [hs] at q <;> exact (let ⟨vs,k,g,z,q⟩ := (q.own_inv (zcz hi).2.2).2; ⟨vs,k,g,z,q⟩)
theorem zc9 (H : HereS cx ε n cf A env F s ρ ad m cm) {x : Str} {i : Nat} {p : Pos} (hx : ε.vars.lookup x = some i) (hn : (x == ("__classdict__" : Str)) = false) (hd : (x == ("__debug__" : Str)) = false) {l : List D} (hi : ownAt ρ i = some l)
  {Q E : VP} (h : Q (.ref (ad i)) s) : wpAny (model cx.prog cx.w) A (eval (.Name x p) env) Q E s := by
 have hs := (zcz hi).1
 refine wpAny_Name (zdW H.here hx hn (fun v q => ?_) (by rw [hs]; intro e; injection e)) hd
 rw [hs] at q
 (injection (q.own_inv (zcz hi).2.2).1 with q; subst q)
 exact h
theorem zh5 (H₀ : HereS cx ε n cf A env F₀ s₀ ρ ad m cm) (st : Step cx F₀ s₀ F s) {i : Nat} {l : List D} (hs : slotAt ρ i = .own l) {h' : Heap} (sb : Heap.SameBut (ad i) s.heap h') {l' : List D} (is : ∃ o,h'.get? (ad i) = some o)
  (key : (∀ a o,F a → s.heap.get? a = some o → h'.get? a = some o) → ∀ ov,SlotRep cx F s.heap ad i ov (.own l) → SlotRep cx F h' ad i ov (.own l')) (k : Nat) :
  StepS cx env F₀ s₀ ρ ad F { s with heap := h',toks := k } (ρ.set i (.own l')) ad ∧ Frm cx ε env F { s with heap := h',toks := k } (ρ.set i (.own l')) ad m cm := by
 have H := H₀.step st
 have f := H.frm
 have hb : Mut env ρ ad (ad i) := .inr (.inr ⟨i,l,hs,rfl⟩)
 obtain ⟨nf,nx,_,nl,nc⟩ := f.own i l hs
 obtain ⟨w',keep⟩ := zgT H hb sb k
 refine ⟨zd9 H₀ st hb sb k (fun _ _ => .inl hb) (fun _ _ => rfl),Frm.put H hb sb k (f.en.ns.sameBut sb (Ne.symm nl)) (fun n c hc => ?_) (fun _ _ _ _ => ⟨rfl,rfl⟩) (fun y hy => ?_) (fun _ _ => rfl) (.inl rfl) (fun j l2 hj hne e => hne (f.oinj j i _ _ hj hs e)) (fun _ _ => ?_)⟩
 ·obtain ⟨o,g,d⟩ := f.en.cells n c hc
  exact ⟨o,(sb.2 c fun e => nc n (e ▸ hc)).trans g,d⟩
 ·refine ⟨fun hk => ?_,fun hk => ?_⟩
  ·rcases f.en.vars y i hy with ⟨_,q⟩ | ⟨e,_⟩
   ·exact key keep _ (hs ▸ q)
   ·rw [hk] at e; rcases e with e | e <;> (injection e with e; injection e)
  ·rcases f.en.vars y i hy with ⟨e,_⟩ | ⟨_,_,q⟩
   ·exact absurd e hk
   ·exact key keep _ (hs ▸ q)
 ·exact ⟨nf,nx,is,nl,nc,fun j l2 hj hs2 e => hj (f.oinj j i _ _ hs2 hs e)⟩
theorem zbN (H₀ : HereS cx ε n cf A env F₀ s₀ ρ ad m cm) (st : Step cx F₀ s₀ F s) {i : Nat} {l : List D} (hi : ownAt ρ i = some l) {h' : Heap} (sb : Heap.SameBut (ad i) s.heap h') {vs' : List Value} {k' : Nat} {l' : List D}
  (hl' : h'.get? (ad i) = some (lobj vs'.toArray k')) (z : vs'.length ≤ lim) (q' : RepL cx.T F s.heap vs' l') (k : Nat) :
  StepS cx env F₀ s₀ ρ ad F { s with heap := h',toks := k } (ρ.set i (.own l')) ad ∧ Frm cx ε env F { s with heap := h',toks := k } (ρ.set i (.own l')) ad m cm := by
 obtain ⟨hs,_,hd⟩ := zcz hi
 obtain ⟨nf,nx,_,_,_⟩ := (H₀.step st).frm.own i l hs
 refine zh5 H₀ st hs sb ⟨_,hl'⟩ (fun keep ov q => ?_) k
 rw [(q.own_inv hd).1]
 exact .own nf nx hl' z (q'.mono (fun _ h => h) keep) hd
theorem zc2 {h : Heap} {a : Addr} {vs : List Value} {k : Nat} (g : h.get? a = some (lobj vs.toArray k)) (f : Array Value → Array Value) (ws : List Value) (hf : f vs.toArray = ws.toArray) :
  ∃ k',(h.update a (Obj.mapSeq f)).get? a = some (lobj ws.toArray k') := by
 have := IsL.update (n := k) (items := vs.toArray) (show IsL h a vs.toArray k from g) f
 rw [hf] at this
 exact ⟨_,this⟩
theorem zgf (vs : List Value) (j : Nat) : vs.toArray.eraseIdxIfInBounds j = (vs.eraseIdx j).toArray := by
 unfold Array.eraseIdxIfInBounds
 split
 ·rw [List.eraseIdx_toArray]
 ·rename_i h
  rw [List.size_toArray] at h
  rw [List.eraseIdx_of_length_le (by omega)]
theorem exprS {e : Expr} {pos : Pos} {Q : Flow → Shared → Prop} {E : VP} (hi : env.scope.kind = .function) (hs : swapsWith e none pos.line env = pure false)
  (h : wpAny (model cx.prog cx.w) A (eval e env) (fun v s' => (∀ a,v ≠ .ref a) ∧ Q .next s') E s) : wpAny (model cx.prog cx.w) A (exec (.Expr e pos) env) Q E s := by
 refine wpAny_Expr (wpAny_mono h (fun v s' h' => ?_) fun _ _ e => e) ?_ hs
 ·cases v <;> first | exact h'.2 | exact absurd rfl (h'.1 _)
 ·unfold interactive; rw [hi]; rfl
end
section
variable {cx : XCx} {ε : Sc}
theorem zhF {cf : CfT} {y : X} {ρ : List Slot} {r : R} (h : ev cf y ρ = some [r]) : ev cf (.cons y .nil) ρ = some [r] := by
 rw [zaX,h]; rfl
theorem arg1 {n cf A env F s ρ ad m cm} (H : Here cx ε n cf A env F s ρ ad m cm) {e : Expr} {y : X} {pos : Pos} {f : Value} (h : Sound cx ε e y) (hst : starred e = false) {d : D} (hd : ev1 cf y ρ = some d) {Q : Args → Shared → Prop} {E : VP}
  (hQ : ∀ v F' s',Step cx F s F' s' → Rep cx.T F' s'.heap v d → Q ⟨[v],[]⟩ s') : wpAny (model cx.prog cx.w) A (evalArgs f true (backTo pos (starEach [e] env)) []) Q E s := by
 obtain ⟨r,e1,e2⟩ := zfC hd
 refine za2 (SoundL.cons h hst .nil) H (zhF e1) fun vs F' s' st q => ?_
 obtain ⟨F'',st',_,q'⟩ := zgc H.ok H.wd st (fun _ h => h) q (ds := [d]) (by unfold fzAll; rw [e2]; rfl)
 cases q' with
 | cons a b => cases b; exact hQ _ F'' s' st' a
theorem zaM {x : Str} {i : Nat} {e : Expr} {y : X} {p apos pos pos' : Pos} (hx : ε.vars.lookup x = some i) (hn : (x == ("__classdict__" : Str)) = false) (hd : (x == ("__debug__" : Str)) = false) (hl : (apos.endLine == pos.line) = true)
  (h : Sound cx ε e y) (hst : starred e = false) : SoundS cx ε (.Expr (.Call (.Attribute (.Name x p) "append" apos) [e] [] pos) pos') (.append i y) := by
 intro n cf A env F s ρ ad m cm H ρ' o he Q E hQ
 replace he := (ze2 cf).symm.trans he
 split at he
 ·rename_i d l e1 e2
  split at he
  ·rename_i hz
   (injection he with he; injection he with he z; subst he z)
   refine exprS H.frm.en.kind rfl ?_
   refine zb8 rfl hl (by simp) (by rw [zaK (SoundL.cons h hst .nil)]) ?_
   refine zc9 H hx hn hd e2 ?_
   obtain ⟨vs,k,g,_,_⟩ := zcQ H hx e2
   refine Calls.getMethod_list_append g rfl rfl ?_
   refine Calls.callWith_builtin (zaK (SoundL.cons h hst .nil)) (arg1 H.here h hst e1 fun v F' s' st q => ?_)
   obtain ⟨vs,k,g,z,qs⟩ := zcQ (H.step st) hx e2
   show wpAny _ _ (call (.builtin "list.append") [.ref (ad i),v]) _ _ s'
   have hlen : vs.length = l.length := qs.length
   refine call_meets PySem.F.slot_list_append ⟨_,g,rfl⟩ PySem.F.entry_list_append (PySem.F.args_list_append_2 _ _) (list_append (ad i) vs.toArray k v (by rw [List.size_toArray]; exact zaB z)) ⟨g, ?_⟩
   refine ⟨(fun a e => nomatch e), ?_⟩
   obtain ⟨k',g'⟩ := zc2 g (fun x => x.push v) (vs ++ [v]) (by simp)
   obtain ⟨x1,f1⟩ := zbN H st e2 (Heap.SameBut.update ..) g' (by simp; omega) (qs.append (.cons q .nil)) s'.toks
   exact hQ .next F' _ ad m cm x1 f1 .next
  ·injection he
 ·injection he
theorem zhU {x : Str} {i : Nat} {p apos pos pos' : Pos} (hx : ε.vars.lookup x = some i) (hn : (x == ("__classdict__" : Str)) = false) (hd : (x == ("__debug__" : Str)) = false) (hl : (apos.endLine == pos.line) = true) :
  SoundS cx ε (.Expr (.Call (.Attribute (.Name x p) "pop" apos) [] [] pos) pos') (.pop i) := by
 intro n cf A env F s ρ ad m cm H ρ' o he Q E hQ
 replace he := (exq_pop cf).symm.trans he
 split at he
 ·rename_i l e2
  split at he
  ·rename_i y e1
   (injection he with he; injection he with he z; subst he z)
   refine exprS H.frm.en.kind rfl ?_
   refine zb8 rfl hl (by simp) (zaK (ε := ε) (cx := cx) .nil) ?_
   refine zc9 H hx hn hd e2 ?_
   obtain ⟨vs,k,g,z,qs⟩ := zcQ H hx e2
   refine getMethod_builtin (T := "list") ⟨_,g,rfl⟩ PySem.F.plainAttrs_list PySem.F.slot_list_pop PySem.F.type_list_pop (fun a e => ⟨_,by cases e; exact g,rfl⟩) ?_
   refine Calls.callWith_builtin (zaK (ε := ε) (cx := cx) .nil) (PySem.evalArgs_none ?_)
   show wpAny _ _ (call (.builtin "list.pop") [.ref (ad i)]) _ _ s
   have hlen : vs.length = l.length := qs.length
   rw [List.getLast?_eq_getElem?] at e1
   obtain ⟨v,hv,rv⟩ := qs.get e1
   cases rv with
   | str t pp zz =>
   refine call_meets PySem.F.slot_list_pop ⟨_,g,rfl⟩ PySem.F.entry_list_pop (PySem.F.args_list_pop_1 _) (MeetsSeq.list_pop_last (ad i) vs.toArray k _ (by rw [List.size_toArray,List.getElem?_toArray,hlen]; exact hv) (by rw [List.size_toArray]; exact zaB z)) ⟨g, ?_⟩
   refine ⟨(fun a e => nomatch e), ?_⟩
   obtain ⟨k',g'⟩ := zc2 g (fun xs => xs.eraseIdxIfInBounds (vs.toArray.size - 1)) vs.dropLast (by
    show vs.toArray.eraseIdxIfInBounds (vs.toArray.size - 1) = _
    rw [zgf,List.size_toArray,List.eraseIdx_length_sub_one])
   obtain ⟨x1,f1⟩ := zbN H (Step.refl H.wd) e2 (Heap.SameBut.update ..) g' (by simp; omega) qs.dropLast s.toks
   exact hQ .next F _ ad m cm x1 f1 .next
  ·injection he
 ·injection he
theorem ziY {i : Int} {n p : Nat} (h : place i n = some p) : seqIndex? i n = some p ∧ p < n := by
 unfold place at h
 unfold seqIndex?
 split at h
 ·split at h
  ·(injection h with h; subst h)
   rename_i h1 h2
   have : ¬ i < 0 := by omega
   simp [this,h1,h2]
   skip
  ·injection h
 ·split at h
  ·(injection h with h; subst h)
   rename_i h1 h2
   have : i < 0 := by omega
   simp [this,h2]
   omega
  ·injection h
theorem zhX {i : Int} (h : small i = true) : Builtin.List.listFitsIndex i = true := by
 obtain ⟨h1,h2⟩ := zcy h
 unfold Builtin.List.listFitsIndex
 simp only [Bool.and_eq_true,decide_eq_true_eq]
 omega
theorem zeB {x : Str} {i : Nat} {ek e : Expr} {k y : X} {p pos pos' : Pos} (hx : ε.vars.lookup x = some i) (hn : (x == ("__classdict__" : Str)) = false) (hd : (x == ("__debug__" : Str)) = false)
  (hk : Sound cx ε ek k) (h : Sound cx ε e y) (hs : ∀ env,swapsWith e (some (.Subscript (.Name x p) ek pos')) pos.line env = pure false) : SoundS cx ε (.Assign [.Subscript (.Name x p) ek pos'] e pos) (.setItem i k y) := by
 intro n cf A env F s ρ ad m cm H ρ' o he Q E hQ
 replace he := (zg4 cf).symm.trans he
 split at he
 ·rename_i d j l e1 e2 e3
  split at he
  ·rename_i hsm
   split at he
   ·rename_i pl hp
    (injection he with he; injection he with he z; subst he z)
    refine wpAny_Assign_Subscript (zcb H h e1 fun v F1 s1 st1 q => ?_) (hs env)
    have H1 := H.step st1
    refine zc9 H1 hx hn hd e3 ?_
    refine zcb H1 hk e2 fun kv F2 s2 st2 qk => ?_
    have H2 := H1.step st2
    obtain ⟨vs,kk,g,z,qs⟩ := zcQ H2 hx e3
    have q2 := st2.rep st1.wd q
    cases qk with
    | int _ t =>
    have hlen : vs.length = l.length := qs.length
    obtain ⟨h1,h2⟩ := ziY hp
    refine zgI (zaI g) g (zhX hsm) (by rw [List.size_toArray,hlen]; exact h1) (by rw [List.size_toArray,hlen]; exact h2) ?_
    obtain ⟨k',g'⟩ := zc2 g (fun xs => xs.setIfInBounds pl v) (vs.set pl v) (by simp)
    obtain ⟨x1,f1⟩ := zbN H (st1.trans st2) e3 (Heap.SameBut.update ..) g' (by simp; omega) (qs.set pl q2) s2.toks
    exact hQ .next F2 _ ad m cm x1 f1 .next
   ·injection he
  ·injection he
 ·injection he
theorem zeD {x : Str} {i : Nat} {ek : Expr} {k : X} {p pos pos' : Pos} (hx : ε.vars.lookup x = some i) (hn : (x == ("__classdict__" : Str)) = false) (hd : (x == ("__debug__" : Str)) = false)
  (hk : Sound cx ε ek k) : SoundS cx ε (.Delete [.Subscript (.Name x p) ek pos'] pos) (.delItem i k) := by
 intro n cf A env F s ρ ad m cm H ρ' o he Q E hQ
 replace he := (zg7 cf).symm.trans he
 split at he
 ·rename_i j l e2 e3
  split at he
  ·rename_i hp
   (injection he with he; injection he with he z; subst he z)
   refine wpAny_Delete (wpAny_deleteEach_cons ?_)
   show wpAny _ _ (do
    let ov ← eval (.Name x p) env
    let iv ← holding [ov] (eval ek env)
    standAt pos'
    holding [ov,iv] (delItem ov iv)
    release [ov,iv] []) _ _ s
   refine wb (zc9 H hx hn hd e3 ?_)
   refine wb (wpAny_holding (zcb H hk e2 fun kv F2 s2 st2 qk => ?_))
   have H2 := H.step st2
   obtain ⟨vs,kk,g,z,qs⟩ := zcQ H2 hx e3
   cases qk with
   | int _ t =>
   have hlen : vs.length = l.length := qs.length
   have hle : vs.length ≤ lim := z
   refine wb (wpAny_standAt (wb (wpAny_holding ?_)))
   refine P.delItem_list (n := kk) (k := j.toNat) g (by unfold Builtin.List.listFitsIndex; simp only [Bool.and_eq_true,decide_eq_true_eq]; unfold lim at hle; omega) (by
    rw [List.size_toArray,hlen]
    unfold seqIndex?
    have h0 : ¬ j < 0 := by omega
    simp only [if_neg h0]
    rw [if_pos (by simp only [Bool.and_eq_true,decide_eq_true_eq]; exact hp)]) ?_ (by rw [List.size_toArray]; exact zaB z)
   obtain ⟨k',g'⟩ := zc2 g (fun xs => xs.eraseIdxIfInBounds j.toNat) (vs.eraseIdx j.toNat) (zgf _ _)
   obtain ⟨x1,f1⟩ := zbN H st2 e3 (Heap.SameBut.update ..) g' (Nat.le_trans (List.length_eraseIdx_le ..) z) (qs.eraseIdx j.toNat) s2.toks
   exact wpAny_release (wpAny_deleteEach_nil (hQ .next F2 _ ad m cm x1 f1 .next))
  ·injection he
 ·injection he
end
section
variable {cx : XCx} {ε : Sc}
theorem zfU {x y : Str} {i j : Nat} {p p' apos pos : Pos} (hx : ε.vars.lookup x = some i) (hf : ε.kinds.lookup x ≠ some .free) (hy : ε.vars.lookup y = some j) (hn : (y == ("__classdict__" : Str)) = false) (hd : (y == ("__debug__" : Str)) = false) :
  SoundS cx ε (.Assign [.Name x p'] (.Attribute (.Name y p) "append" apos) pos) (.alias i j) := by
 intro n cf A env F s ρ ad m cm H ρ' o he Q E hQ
 replace he := (zjU cf).symm.trans he
 split at he
 ·rename_i l e1
  (injection he with he; injection he with he z; subst he z)
  refine wpAny_Assign_Name ?_ rfl
  rw [arm_eval_Attribute]
  show wpAny _ _ (do
   let o ← attributeBase (.Name y p) "append" env (eval (.Name y p) env)
   standAt apos.atName
   let r ← holding [o] (getAttr o "append" true)
   letTemporaryGo (.Name y p) o r
   pure r) _ _ _
  rw [zdA rfl]
  refine wb (zc9 H hy hn hd e1 ?_)
  obtain ⟨vs,k,g,z,qs⟩ := zcQ H hy e1
  refine wb (wpAny_standAt (wb (wpAny_holding (zeM g ?_))))
  refine wb (wpAny_pure (wpAny_pure ?_))
  have st := Step.push H.ok H.wd (appObj (ad j)) (s.toks + 1)
  have g' : (s.heap.push (appObj (ad j))).get? s.heap.objs.size = some (appObj (ad j)) := Heap.get?_push_size _ rfl
  have st' := st.freeze H.ok H.wd (zaz _) g'
  refine zd3 H st' hx hf (sl := .app j) (ad' := ad) (fun _ _ => rfl) (.inl rfl) (fun h' hk => .app (.inr rfl) (hk _ _ (.inl (.inr rfl)) g') rfl) (fun _ e => nomatch e) fun s'' m' cm' x f => hQ .next _ s'' ad m' cm' x f .next
 ·injection he
theorem zaE {x y : Str} {i j : Nat} {e : Expr} {z : X} {p pos pos' : Pos} (hx : ε.vars.lookup x = some i) (hy : ε.vars.lookup y = some j) (hn : (x == ("__classdict__" : Str)) = false) (hd : (x == ("__debug__" : Str)) = false)
  (h : Sound cx ε e z) (hst : starred e = false) : SoundS cx ε (.Expr (.Call (.Name x p) [e] [] pos) pos') (.appendVia i j z) := by
 intro n cf A env F s ρ ad m cm H ρ' o he Q E hQ
 replace he := (zfB cf).symm.trans he
 split at he
 ·rename_i j' e0
  split at he
  ·rename_i ej
   subst ej
   split at he
   ·rename_i d l e1 e2
    split at he
    ·rename_i hz
     (injection he with he; injection he with he z; subst he z)
     have hs : slotAt ρ i = .app j' := by unfold slotAt; simp [List.getD,e0]
     refine exprS H.frm.en.kind rfl ?_
     rw [zaw (by intro _ _ _ e; injection e)]
     refine wb (wpAny_Name (zdW H.here hx hn (fun v q => ?_) (by rw [hs]; intro e; injection e)) hd)
     rw [hs] at q
     cases q with
     | @app b o _ fb g eo =>
     subst eo
     refine zeQ (l := ad j') (zaK (SoundL.cons h hst .nil)) (arg1 H.here h hst e1 fun v F' s' st q => ?_)
     have g' := st.keep _ _ g (H.wd.nx _ fb)
     refine ⟨g', ?_⟩
     obtain ⟨vs,k,gl,z,qs⟩ := zcQ (H.step st) hy e2
     have hlen : vs.length = l.length := qs.length
     refine wpAny_call (ziw g' gl (zhf gl (by rw [List.size_toArray]; exact zaB z) ?_))
     refine ⟨(fun a e => nomatch e), ?_⟩
     obtain ⟨k',gk⟩ := zc2 gl (fun x => x.push v) (vs ++ [v]) (by simp)
     obtain ⟨x1,f1⟩ := zbN H st e2 (Heap.SameBut.update ..) gk (by simp; omega) (qs.append (.cons q .nil)) s'.toks
     exact hQ .next F' _ ad m cm x1 f1 .next
    ·injection he
   ·injection he
  ·injection he
 ·injection he
theorem zeV {x : Str} {i : Nat} {e : Expr} {z : X} {p pos : Pos} (hx : ε.vars.lookup x = some i) (hf : ε.kinds.lookup x ≠ some .free) (hn : (x == ("__classdict__" : Str)) = false) (h : Sound cx ε e z) :
  SoundS cx ε (.AugAssign (.Name x p) .Add e pos) (.aug i z) := by
 intro n cf A env F s ρ ad m cm H ρ' o he Q E hQ
 replace he := (zjT cf).symm.trans he
 split at he
 ·rename_i a b e0 e1
  split at he
  ·rename_i hz
   (injection he with he; injection he with he z; subst he z)
   have hs : slotAt ρ i = .val (.str a) := by unfold slotAt; simp [List.getD,e0]
   refine wpAny_AugAssign_Name (zdW H.here hx hn (fun v q => ?_) (by rw [hs]; intro e; injection e))
   rw [hs] at q
   cases q with
   | val q =>
   cases q with
   | str t pa za =>
   refine zcb H h e1 fun v F' s' st q => ?_
   cases q with
   | str u pb zb =>
   refine PyProof.Rows.iadd_str (fun t' tk => ?_) (by
    show a.toArray.size + b.toArray.size ≤ sizeLine
    rw [List.size_toArray,List.size_toArray]; exact zaB hz)
   have e : (PySem.Str.mk a.toArray ++ PySem.Str.mk b.toArray) = PySem.Str.mk (a ++ b).toArray := by
    show PySem.Str.mk (a.toArray ++ b.toArray) = _
    simp
   rw [e]
   have st2 := st.toks tk
   have r : Rep cx.T F' s'.heap (.str ⟨(a ++ b).toArray⟩ t') (.str (a ++ b)) := .str _ (fun c hc => (List.mem_append.mp hc).elim (pa c) (pb c)) (by rw [List.length_append]; exact hz)
   exact zb1 H st2 hx hf r fun s'' m' cm' x f => hQ .next F' s'' ad m' cm' x f .next
  ·injection he
 ·injection he
end
inductive Stores (cx : XCx) (ε : Sc) (A : Around) (env : Env) : List (Value → Sem Unit) → List Nat → Prop
 | nil : Stores cx ε A env [] []
 | cons {f : Value → Sem Unit} {fs : List (Value → Sem Unit)} {x : Str} {i : Nat} {is : List Nat} : ε.vars.lookup x = some i → ε.kinds.lookup x ≠ some .free →
   (∀ (v : Value) (Q : Unit → Shared → Prop) (E : VP) (s : Shared),wpAny (model cx.prog cx.w) A (storeName env x v) Q E s → wpAny (model cx.prog cx.w) A (f v) Q E s) → Stores cx ε A env fs is → Stores cx ε A env (f :: fs) (i :: is)
section
variable {cx : XCx} {ε : Sc}
theorem Stores.run {n cf A env} {fs : List (Value → Sem Unit)} {is : List Nat} (S : Stores cx ε A env fs is) : ∀ {F s ρ ad m cm},HereS cx ε n cf A env F s ρ ad m cm → ∀ {vs : List Value} {ds : List D},RepL cx.T F s.heap vs ds → ds.length = is.length → ∀ {Q : Unit → Shared → Prop} {E : VP},
  (∀ F' s' m' cm',StepS cx env F s ρ ad F' s' (setAll ρ is ds) ad → Frm cx ε env F' s' (setAll ρ is ds) ad m' cm' → Q () s') → wpAny (model cx.prog cx.w) A (assignInOrder fs vs) Q E s := by
 induction S with
 | nil =>
  intro F s ρ ad m cm H vs ds q hl Q E hQ
  cases ds with
  | nil => cases q; exact wpAny_pure (hQ F s m cm (StepS.refl H.wd) H.frm)
  | cons _ _ => injection hl
 | @cons f fs x i is hx hf hs S ih =>
  intro F s ρ ad m cm H vs ds q hl Q E hQ
  cases ds with
  | nil => injection hl
  | cons d ds =>
   cases q with
   | @cons v vs _ _ a b =>
   show wpAny _ _ (do holding vs (f v); assignInOrder fs vs) Q E s
   refine wb (wpAny_holding (hs v _ _ _ (zb1 H (Step.refl H.wd) hx hf a fun s' m' cm' x1 f1 => ?_)))
   have H1 := H.stepS x1 f1
   exact ih H1 (x1.repL H b) (by simpa using hl) fun F2 s2 m2 cm2 x2 f2 => hQ F2 s2 m2 cm2 (x1.trans x2) f2
theorem zfK {n cf A env F s ρ ad m cm} (H : HereS cx ε n cf A env F s ρ ad m cm) {a : Addr} {vs : List Value} (ht : s.heap.IsTuple a vs.toArray) {ds : List D} (q : RepL cx.T F s.heap vs ds) {k : Nat} (hk : ds.length = k) {Q : List Value → Shared → Prop} {E : VP}
  (hQ : ∀ vs s',Step cx F s F s' → RepL cx.T F s'.heap vs ds → Q vs s') : wpAny (model cx.prog cx.w) A (unpackItems (.ref a) k none) Q E s := by
 have hk' : k = vs.toArray.size := by rw [List.size_toArray,q.length,hk]
 rw [hk']
 refine wpAny_unpackItems_tuple H.bud.hd ht fun h' he => ?_
 have st : Step cx F s F { s with heap := h' } := Step.grown H.ok H.wd s.toks fun b o e => he b o (Nat.ne_of_lt (Heap.lt_size e)) e
 refine hQ _ _ st ?_
 have := st.repL H.wd q
 simpa using this
theorem zfP {n cf A env F s ρ ad m cm} (H : HereS cx ε n cf A env F s ρ ad m cm) {elts : List Expr} {k : Nat} {pos : Pos} {a : Addr} {vs : List Value} (ht : s.heap.IsTuple a vs.toArray) {ds : List D} (q : RepL cx.T F s.heap vs ds) {is : List Nat} (hl : ds.length = is.length)
  (hlen : (assignEach elts env).length = is.length) (hst : (assignEach elts env).findIdx? (·.1) = none) (S : Stores cx ε A env ((assignEach elts env).map (·.2)) is) {Q : Unit → Shared → Prop} {E : VP}
  (hQ : ∀ F' s' m' cm',StepS cx env F s ρ ad F' s' (setAll ρ is ds) ad → Frm cx ε env F' s' (setAll ρ is ds) ad m' cm' → Q () s') : wpAny (model cx.prog cx.w) A (assign (.Tuple elts k pos) env (.ref a)) Q E s := by
 rw [arm_assign_Tuple]
 refine wb (wpAny_standAt ?_)
 unfold unpack
 rw [hlen,hst]
 refine wb (wpAny_holding (zfK H ht q hl fun vs s' st q' => ?_))
 have H1 := H.step st
 exact S.run H1 q' hl fun F2 s2 m2 cm2 x2 f2 => hQ F2 s2 m2 cm2 ((StepS.ofStep st).trans x2) f2
theorem zlh {T : NAd} {F : AP} {h : Heap} {v : Value} {ds : List D} (q : Rep T F h v (.tup ds)) : ∃ a vs,v = .ref a ∧ h.IsTuple a vs.toArray ∧ RepL T F h vs ds := by
 cases q with
 | tup f g z q => exact ⟨_,_,rfl,⟨_,g,rfl,_,rfl⟩,q⟩
theorem zhL {n cf A env F s ρ ad m cm} (H : HereS cx ε n cf A env F s ρ ad m cm) {v : Value} {ds : List D} (q : Rep cx.T F s.heap v (.tup ds)) {k : Nat} (hk : ds.length = k) {Q : List Value → Shared → Prop} {E : VP}
  (hQ : ∀ vs s',Step cx F s F s' → RepL cx.T F s'.heap vs ds → Q vs s') : wpAny (model cx.prog cx.w) A (unpackItems v k none) Q E s := by
 obtain ⟨a,vs,rfl,ht,q'⟩ := zlh q
 exact zfK H ht q' hk hQ
theorem zdi {n cf A env F s ρ ad m cm} (H : HereS cx ε n cf A env F s ρ ad m cm) {elts : List Expr} {k : Nat} {pos : Pos} {v : Value} {ds : List D} (q : Rep cx.T F s.heap v (.tup ds)) {is : List Nat} (hl : ds.length = is.length)
  (hlen : (assignEach elts env).length = is.length) (hst : (assignEach elts env).findIdx? (·.1) = none) (S : Stores cx ε A env ((assignEach elts env).map (·.2)) is) {Q : Unit → Shared → Prop} {E : VP}
  (hQ : ∀ F' s' m' cm',StepS cx env F s ρ ad F' s' (setAll ρ is ds) ad → Frm cx ε env F' s' (setAll ρ is ds) ad m' cm' → Q () s') : wpAny (model cx.prog cx.w) A (assign (.Tuple elts k pos) env v) Q E s := by
 obtain ⟨a,vs,rfl,ht,q'⟩ := zlh q
 exact zfP H ht q' hl hlen hst S hQ
theorem za6 {A : Around} {env : Env} {x : Str} {p : Pos} : ∀ (v : Value) (Q : Unit → Shared → Prop) (E : VP) (s : Shared),wpAny (model cx.prog cx.w) A (storeName env x v) Q E s → wpAny (model cx.prog cx.w) A (assign (.Name x p) env v) Q E s :=
 fun _ _ _ _ h => wpAny_assign_Name h
theorem zgD {x y : Str} {i j : Nat} {p p' pos : Pos} {k : Nat} (hx : ε.vars.lookup x = some i) (hy : ε.vars.lookup y = some j) (hfx : ε.kinds.lookup x ≠ some .free) (hfy : ε.kinds.lookup y ≠ some .free) :
  SoundA cx ε (.Tuple [.Name x p,.Name y p'] k pos) (put2 i j) := by
 intro n cf A env F s ρ ad m cm H v d ρ' hv hp Q E hQ
 unfold put2 at hp
 split at hp <;> (first | (injection hp; done) | (injection hp with hp; subst hp))
 exact zdi H hv (is := [i,j]) rfl rfl rfl (.cons hx hfx za6 (.cons hy hfy za6 .nil)) hQ
theorem zcH {x y : Str} {i j : Nat} {p p' pos' pos : Pos} {k : Nat} {e : Expr} {z : X} (hx : ε.vars.lookup x = some i) (hy : ε.vars.lookup y = some j) (hfx : ε.kinds.lookup x ≠ some .free) (hfy : ε.kinds.lookup y ≠ some .free)
  (h : Sound cx ε e z) (hs : ∀ env,swapsWith e (some (.Tuple [.Name x p,.Name y p'] k pos')) pos.line env = pure false) (hw : ∀ env,swappedStores [.Tuple [.Name x p,.Name y p'] k pos'] e env = pure none) :
  SoundS cx ε (.Assign [.Tuple [.Name x p,.Name y p'] k pos'] e pos) (.assign2 i j z) := by
 intro n cf A env F s ρ ad m cm H ρ' o he Q E hQ
 replace he := (zcV cf).symm.trans he
 split at he <;> (first | (injection he; done) | (injection he with he; injection he with he z; subst he z))
 rename_i a b e1
 refine wpAny_Assign_stores (zcb H h e1 fun v F1 s1 st q => ?_) (hs env) (hw env)
 show wpAny _ _ (assign (.Tuple [.Name x p,.Name y p'] k pos') env v) _ _ _
 have H1 := H.step st
 exact zdi H1 q (is := [i,j]) rfl rfl rfl (.cons hx hfx za6 (.cons hy hfy za6 .nil)) fun F2 s2 m2 cm2 x2 f2 => hQ .next F2 s2 ad m2 cm2 ((StepS.ofStep st).trans x2) f2 .next
theorem zeE {x y w : Str} {i j l : Nat} {p p' p'' pos' pos : Pos} {k : Nat} {e : Expr} {z : X} (hx : ε.vars.lookup x = some i) (hy : ε.vars.lookup y = some j) (hw' : ε.vars.lookup w = some l) (hfx : ε.kinds.lookup x ≠ some .free) (hfy : ε.kinds.lookup y ≠ some .free) (hfw : ε.kinds.lookup w ≠ some .free)
  (h : Sound cx ε e z) (hs : ∀ env,swapsWith e (some (.Tuple [.Name x p,.Name y p',.Name w p''] k pos')) pos.line env = pure false) (hw : ∀ env,swappedStores [.Tuple [.Name x p,.Name y p',.Name w p''] k pos'] e env = pure none) :
  SoundS cx ε (.Assign [.Tuple [.Name x p,.Name y p',.Name w p''] k pos'] e pos) (.assign3 i j l z) := by
 intro n cf A env F s ρ ad m cm H ρ' o he Q E hQ
 replace he := (zg8 cf).symm.trans he
 split at he <;> (first | (injection he; done) | (injection he with he; injection he with he z; subst he z))
 rename_i a b c e1
 refine wpAny_Assign_stores (zcb H h e1 fun v F1 s1 st q => ?_) (hs env) (hw env)
 show wpAny _ _ (assign (.Tuple [.Name x p,.Name y p',.Name w p''] k pos') env v) _ _ _
 have H1 := H.step st
 exact zdi H1 q (is := [i,j,l]) rfl rfl rfl (.cons hx hfx za6 (.cons hy hfy za6 (.cons hw' hfw za6 .nil))) fun F2 s2 m2 cm2 x2 f2 => hQ .next F2 s2 ad m2 cm2 ((StepS.ofStep st).trans x2) f2 .next
theorem zdv {x y : Str} {i j : Nat} {ts : List Expr} {pos' pos : Pos} {k : Nat} {e : Expr} {z : X} (hx : ε.vars.lookup x = some i) (hy : ε.vars.lookup y = some j) (hfx : ε.kinds.lookup x ≠ some .free) (hfy : ε.kinds.lookup y ≠ some .free) (hij : i ≠ j)
  (h : Sound cx ε e z) (hs : ∀ env,swapsWith e (some (.Tuple ts k pos')) pos.line env = pure false) (hw : ∀ env : Env,env.scope.kind = .function → env.scope.names = ε.kinds → swappedStores [.Tuple ts k pos'] e env = pure (some [x,y])) :
  SoundS cx ε (.Assign [.Tuple ts k pos'] e pos) (.assign2 i j z) := by
 intro n cf A env F s ρ ad m cm H ρ' o he Q E hQ
 replace he := (zcV cf).symm.trans he
 split at he <;> (first | (injection he; done) | (injection he with he; injection he with he z; subst he z))
 rename_i a b e1
 rw [exec_Assign_arm]
 refine wb (wpAny_standAt ?_)
 rw [show swapsWithSole [.Tuple ts k pos'] e pos.line env = pure false from hs env]
 refine wb (wpAny_pure ?_)
 rw [if_neg (by decide)]
 refine wb (zcb H h e1 fun v F1 s1 st q => ?_)
 rw [hw env H.frm.en.kind H.frm.en.names]
 refine wb (wpAny_pure ?_)
 have H1 := H.step st
 show wpAny _ _ (do
  rule "assign.swapped-stores"
  let items ← unpackItems v 2 none
  assignInOrder [bindName env y,bindName env x] items.reverse
  pure Flow.next) _ _ _
 refine wb (wpAny_rule (wb (zhL H1 q rfl fun vs s2 st2 q2 => ?_)))
 have H2 := H1.step st2
 have q3 := q2.reverse
 have S : Stores cx ε A env [bindName env y,bindName env x] [j,i] := .cons hy hfy (fun _ _ _ _ h => wpAny_bindName h) (.cons hx hfx (fun _ _ _ _ h => wpAny_bindName h) .nil)
 refine wb (S.run H2 q3 rfl fun F3 s3 m3 cm3 x3 f3 => wpAny_pure ?_)
 have e : setAll ρ [j,i] [a,b].reverse = (ρ.set i (.val a)).set j (.val b) := by
  show (ρ.set j (.val b)).set i (.val a) = _
  rw [List.set_comm _ _ hij]
 rw [e] at x3 f3
 exact hQ .next F3 s3 ad m3 cm3 (((StepS.ofStep st).trans (StepS.ofStep st2)).trans x3) f3 .next
theorem zgC {x y : Str} {i j : Nat} {p p' pos' : Pos} {k : Nat} {it : Expr} {z : X} {bs : List Stmt} {b : S} {pos : Pos} (hx : ε.vars.lookup x = some i) (hy : ε.vars.lookup y = some j) (hfx : ε.kinds.lookup x ≠ some .free) (hfy : ε.kinds.lookup y ≠ some .free) (hi : SoundI cx ε it z) (hb : SoundSs cx ε bs b)
  (hs : ∀ env x,foldedSetIterable it env x = pure x) : SoundS cx ε (.For (.Tuple [.Name x p,.Name y p'] k pos') it bs [] pos) (.forE2 i j z b) := by
 intro n cf A env F s ρ ad m cm H ρ' o h Q E hQ
 replace h := (zeo cf).symm.trans h
 split at h
 ·rename_i items e
  exact zjL (zgD hx hy hfx hfy) hi hb hs H e h hQ
 ·injection h
theorem zdk {body : List Stmt} {h₀ : ExceptHandler} {hs : List ExceptHandler} {b : S} {pos : Pos} (hb : SoundSs cx ε body b) : SoundS cx ε (.Try body (h₀ :: hs) [] [] pos) (.try_ b) := by
 intro n cf A env F s ρ ad m cm H ρ' o h Q E hQ
 replace h := (zhC cf).symm.trans h
 refine wpAny_Try_except (hb n cf A env F s ρ ad m cm H ρ' o h _ _ fun f F' s' ad' m' cm' x fr q => ?_)
 cases q with
 | next => exact wpAny_execs_nil (hQ _ F' s' ad' m' cm' x fr .next)
 | brk => exact hQ _ F' s' ad' m' cm' x fr .brk
 | cont => exact hQ _ F' s' ad' m' cm' x fr .cont
 | ret r => exact hQ _ F' s' ad' m' cm' x fr (.ret r)
end
theorem zcW {env : Env} : ∀ (names : List (Str × NameKind)) (cs : List (Str × Addr)),(∀ n k,(n,k) ∈ names → k = .free → ∃ c,env.cells.lookup n = some c) → (∀ n c,cs.lookup n = some c → env.cells.lookup n = some c) →
  ∃ cs',(forIn names cs fun (x : Str × NameKind) (r : List (Str × Addr)) => (if (x.2 == NameKind.free) = true then do let c ← cellOf env x.1; pure (ForInStep.yield ((x.1,c) :: r)) else pure (ForInStep.yield r) : Sem (ForInStep (List (Str × Addr))))) = (pure cs' : Sem _) ∧
   (∀ n c,cs'.lookup n = some c → env.cells.lookup n = some c) ∧ (∀ n,(cs.lookup n).isSome ∨ (n,NameKind.free) ∈ names → (cs'.lookup n).isSome)
 | [],cs,_,h2 => ⟨cs,rfl,h2,fun n h => h.elim id fun h => nomatch h⟩
 | (n,k) :: r,cs,h1,h2 => by
  rw [List.forIn_cons]
  by_cases hk : k = .free
  ·subst hk
   obtain ⟨c,hc⟩ := h1 n .free List.mem_cons_self rfl
   obtain ⟨cs',e,h3,h4⟩ := zcW r ((n,c) :: cs) (fun n' k' h => h1 n' k' (List.mem_cons_of_mem _ h)) (fun n' c' h => by
    rw [List.lookup_cons] at h
    cases hn : n' == n with
    | true => rw [hn] at h; (injection h with h; subst h); rw [beq_iff_eq.mp hn]; exact hc
    | false => rw [hn] at h; exact h2 n' c' h)
   refine ⟨cs', ?_,h3,fun n' h => h4 n' ?_⟩
   ·have e1 : cellOf env n = pure c := by unfold cellOf; rw [hc]
    simp only [beq_self_eq_true,if_true,e1,pure_bind]
    exact e
   ·rw [List.lookup_cons]
    cases hn : n' == n with
    | true => exact .inl rfl
    | false =>
     rcases h with h | h
     ·exact .inl h
     ·rcases List.mem_cons.mp h with h | h
      ·cases h; simp at hn
      ·exact .inr h
  ·obtain ⟨cs',e,h3,h4⟩ := zcW r cs (fun n' k' h => h1 n' k' (List.mem_cons_of_mem _ h)) h2
   have hb : (k == NameKind.free) = false := by simpa using hk
   refine ⟨cs', ?_,h3,fun n' h => h4 n' (h.imp id fun h => ?_)⟩
   ·simp only [hb,Bool.false_eq_true,if_false,pure_bind]
    exact e
   ·rcases List.mem_cons.mp h with h | h
    ·cases h; exact absurd rfl hk
    ·exact h
theorem ziq {scope : Scope} {env : Env} (h : ∀ n k,(n,k) ∈ scope.names → k = .free → ∃ c,env.cells.lookup n = some c) :
  ∃ cl,closureFor scope env = pure cl ∧ (∀ n c,cl.lookup n = some c → env.cells.lookup n = some c) ∧ (∀ n,(n,NameKind.free) ∈ scope.names → (cl.lookup n).isSome) := by
 obtain ⟨cs',e,h3,h4⟩ := zcW scope.names [] h (fun _ _ h => nomatch h)
 refine ⟨cs', ?_,h3,fun n h => h4 n (.inr h)⟩
 unfold closureFor
 simp only [bind_pure]
 refine Eq.trans ?_ e
 congr 1
noncomputable def relab (ks : List (Str × NameKind)) (names : List (Str × NameKind)) : List (Str × NameKind) :=
 names.map fun (n,k) => if (k == .free && ks.lookup n == some .cell) then (n,.cell) else (n,k)
noncomputable def compSc (ε : Sc) (scope : Scope) (tv : List (Str × Nat)) : Sc :=
 ⟨relab ε.kinds scope.names,tv ++ ε.vars.filter fun y => scope.names.lookup y.1 == some .free,ε.code,false⟩
theorem zcP {ks : List (Str × NameKind)} {x : Str} : ∀ {names : List (Str × NameKind)},names.lookup x = some .local → (relab ks names).lookup x = some .local
 | [],h => nomatch h
 | (n,k) :: r,h => by
  unfold relab
  rw [List.map_cons]
  rw [List.lookup_cons] at h
  cases hx : x == n with
  | true =>
   rw [hx] at h
   (injection h with h; subst h)
   show List.lookup x ((n,NameKind.local) :: _) = _
   rw [List.lookup_cons,hx]
  | false =>
   rw [hx] at h
   by_cases hc : (k == .free && ks.lookup n == some .cell) = true
   ·simp only [hc,if_true,List.lookup_cons,hx]; exact zcP h
   ·simp only [if_neg hc,List.lookup_cons,hx]; exact zcP h
theorem zdm {ks : List (Str × NameKind)} {x : Str} : ∀ {names : List (Str × NameKind)},names.lookup x = some .free → (relab ks names).lookup x = some .cell ∨ (relab ks names).lookup x = some .free
 | [],h => nomatch h
 | (n,k) :: r,h => by
  unfold relab
  rw [List.map_cons]
  rw [List.lookup_cons] at h
  cases hx : x == n with
  | true =>
   rw [hx] at h
   (injection h with h; subst h)
   by_cases hc : (NameKind.free == .free && ks.lookup n == some .cell) = true
   ·left; simp only [hc,if_true,List.lookup_cons,hx]
   ·right; simp only [if_neg hc,List.lookup_cons,hx]
  | false =>
   rw [hx] at h
   by_cases hc : (k == .free && ks.lookup n == some .cell) = true
   ·simp only [hc,if_true,List.lookup_cons,hx]; exact zdm h
   ·simp only [if_neg hc,List.lookup_cons,hx]; exact zdm h
theorem za7 {β : Type} {p : Str → Bool} {x : Str} {j : β} : ∀ {l : List (Str × β)},(l.filter fun y => p y.1).lookup x = some j → l.lookup x = some j ∧ p x = true
 | [],h => nomatch h
 | (n,k) :: r,h => by
  rw [List.filter_cons] at h
  rw [List.lookup_cons]
  cases hx : x == n with
  | true =>
   have e := beq_iff_eq.mp hx
   subst e
   by_cases hp : p x = true
   ·simp only [hp,if_true,List.lookup_cons,hx] at h
    exact ⟨h,hp⟩
   ·rw [if_neg hp] at h
    exact absurd (za7 h).2 hp
  | false =>
   by_cases hp : p n = true
   ·simp only [hp,if_true,List.lookup_cons,hx] at h
    exact za7 h
   ·rw [if_neg hp] at h
    exact za7 h
theorem zc8 {β : Type} {x : Str} : ∀ {l r : List (Str × β)},(l ++ r).lookup x = (match l.lookup x with | some b => some b | none => r.lookup x)
 | [],r => rfl
 | (n,k) :: l,r => by
  rw [List.cons_append,List.lookup_cons,List.lookup_cons]
  cases hx : x == n with
  | true => rfl
  | false => exact zc8
noncomputable def updL (m : SV) : List Str → List Value → Str → Option Value
 | x :: xs,v :: vs => updL (fun y => if y = x then some v else m y) xs vs
 | _,_ => m
theorem zhh {x : Str} : ∀ {xs : List Str} {vs : List Value} {m : SV},x ∉ xs → updL m xs vs x = m x
 | [],_,_,_ => rfl
 | _ :: _,[],_,_ => rfl
 | y :: xs,v :: vs,m,h => by
  show updL _ xs vs x = _
  rw [zhh fun h' => h (List.mem_cons_of_mem _ h')]
  exact if_neg fun (e : x = y) => h (by rw [e]; exact List.mem_cons_self)
theorem zdl {j : Nat} : ∀ {is : List Nat} {ds : List D} {ρ : List Slot},j ∉ is → slotAt (setAll ρ is ds) j = slotAt ρ j
 | [],_,_,_ => rfl
 | _ :: _,[],_,_ => rfl
 | i :: is,d :: ds,ρ,h => by
  show slotAt (setAll (ρ.set i (.val d)) is ds) j = _
  rw [zdl fun h' => h (List.mem_cons_of_mem _ h'),zaV,if_neg fun (e : j = i) => h (by rw [e]; exact List.mem_cons_self)]
theorem zfO {cx : XCx} {F : AP} {h : Heap} {ad : NAd} {x : Str} {i : Nat} : ∀ {xs : List Str} {is : List Nat} {vs : List Value} {ds : List D} {m : SV} {ρ : List Slot},xs.Nodup → is.Nodup → xs.length = is.length → ds.length = is.length → RepL cx.T F h vs ds → (xs.zip is).lookup x = some i →
  SlotRep cx F h ad i (updL m xs vs x) (slotAt (setAll ρ is ds) i) := by
 intro xs
 induction xs with
 | nil => intro is vs ds m ρ _ _ _ _ _ e; injection e
 | cons y xs ih =>
  intro is vs ds m ρ h1 h2 h3 h4 q e
  cases is with
  | nil => injection h3
  | cons j is => cases q with
   | nil => injection h4
   | @cons v vs d ds a b =>
    rw [List.zip_cons_cons,List.lookup_cons] at e
    obtain ⟨n1,h1'⟩ := List.nodup_cons.mp h1
    obtain ⟨n2,h2'⟩ := List.nodup_cons.mp h2
    cases hx : x == y with
    | true =>
     rw [hx] at e
     cases e
     have ey := beq_iff_eq.mp hx
     subst ey
     show SlotRep cx F h ad i (updL _ xs vs x) (slotAt (setAll (ρ.set i (.val d)) is ds) i)
     rw [zhh n1,zdl n2,zaV,if_pos rfl,if_pos rfl]
     split
     ·exact .val a
     ·exact .unset
    | false =>
     rw [hx] at e
     show SlotRep cx F h ad i (updL _ xs vs x) (slotAt (setAll (ρ.set j (.val d)) is ds) i)
     exact ih h1' h2' (Nat.succ.inj h3) (Nat.succ.inj h4) b e
theorem zdE {x : Str} {i : Nat} : ∀ {xs : List Str} {is : List Nat},(xs.zip is).lookup x = some i → x ∈ xs ∧ i ∈ is
 | [],_,h => nomatch h
 | _ :: _,[],h => nomatch h
 | y :: xs,j :: is,h => by
  rw [List.zip_cons_cons,List.lookup_cons] at h
  cases hx : x == y with
  | true => rw [hx] at h; cases h; rw [beq_iff_eq.mp hx]; exact ⟨List.mem_cons_self,List.mem_cons_self⟩
  | false => rw [hx] at h; obtain ⟨a,b⟩ := zdE h; exact ⟨List.mem_cons_of_mem _ a,List.mem_cons_of_mem _ b⟩
set_option genInjectivity false in
structure CompOK (ε : Sc) (scope : Scope) (xs : List Str) (is : List Nat) : Prop where
 kind : scope.kind = .function
 nocell : ∀ y ∈ scope.names,y.2 ≠ .cell
 names : ∀ y ∈ scope.names,y.2 = .local → scope.names.lookup y.1 = some .local
 xl : ∀ x ∈ xs,scope.names.lookup x = some .local
 free : ∀ y k,(y,k) ∈ scope.names → k = .free → (∃ j,ε.vars.lookup y = some j) ∧ ε.kinds.lookup y ≠ some .local
 apart : ∀ y j,ε.vars.lookup y = some j → j ∉ is
 xn : xs.Nodup
 isn : is.Nodup
 len : xs.length = is.length
theorem zbg {β : Type} {x : Str} {b : β} : ∀ {l : List (Str × β)},l.lookup x = some b → (x,b) ∈ l
 | [],h => nomatch h
 | (n,k) :: r,h => by
  rw [List.lookup_cons] at h
  cases hx : x == n with
  | true => rw [hx] at h; cases h; rw [beq_iff_eq.mp hx]; exact List.mem_cons_self
  | false => rw [hx] at h; exact List.mem_cons_of_mem _ (zbg h)
section
variable {cx : XCx} {ε : Sc} {env : Env} {F : AP} {h : Heap} {ρ : List Slot} {ad : NAd} {m cm : SV}
theorem EnvOK.closure (e : EnvOK cx ε env F h ρ ad m cm) {scope : Scope} {xs : List Str} {is : List Nat} (c : CompOK ε scope xs is) :
  ∃ cl,closureFor scope env = pure cl ∧ (∀ n c,cl.lookup n = some c → env.cells.lookup n = some c) ∧ (∀ n,(n,NameKind.free) ∈ scope.names → (cl.lookup n).isSome) :=
 ziq fun n k hm hk => by
  obtain ⟨⟨j,hj⟩,hl⟩ := c.free n k hm hk
  rcases e.vars n j hj with ⟨h,_⟩ | ⟨_,h,_⟩
  ·exact absurd h hl
  ·exact h
theorem EnvOK.comp (e : EnvOK cx ε env F h ρ ad m cm) {scope : Scope} {xs : List Str} {is : List Nat} (c : CompOK ε scope xs is) {cl : List (Str × Addr)} (h1 : ∀ n c,cl.lookup n = some c → env.cells.lookup n = some c) (h2 : ∀ n,(n,NameKind.free) ∈ scope.names → (cl.lookup n).isSome)
  {C : Addr} (hC : ¬ cx.X C) {m₁ : SV} {vs : List Value} {ds : List D} (hn : h.Ns C (updL m₁ xs vs)) (hd : ds.length = is.length) (hr : RepL cx.T F h vs ds) :
  EnvOK cx (compSc ε scope (xs.zip is)) (compEnvC scope cl C env) F h (setAll ρ is ds) ad (updL m₁ xs vs) cm := by
 refine ⟨c.kind, ?_,e.glob,e.blt,e.code,hC,fun n a ha => e.cxx n a (h1 n a ha),hn,fun n a ha => e.cells n a (h1 n a ha),fun y j hy => ?_⟩
 ·show (relabel scope env).names = relab ε.kinds scope.names
  unfold relabel relab
  have ek : env.scope.kind = .function := e.kind
  have en : ∀ n,env.kindOf n = ε.kinds.lookup n := fun n => by unfold Env.kindOf; rw [e.names]
  simp only [ek,en,beq_self_eq_true,Bool.and_true]
 ·have hy' : ((xs.zip is) ++ ε.vars.filter fun y => scope.names.lookup y.1 == some .free).lookup y = some j := hy
  rw [zc8] at hy'
  split at hy'
  ·rename_i i ei
   cases hy'
   left
   exact ⟨zcP (c.xl y (zdE ei).1),zfO c.xn c.isn c.len hd hr ei⟩
  ·obtain ⟨hj,hp⟩ := za7 (p := fun z => scope.names.lookup z == some .free) hy'
   have hf : scope.names.lookup y = some .free := by simpa using hp
   right
   have hm := zbg hf
   have hl := (c.free y .free hm rfl).2
   rcases e.vars y j hj with ⟨h,_⟩ | ⟨_,_,q⟩
   ·exact absurd h hl
   ·refine ⟨zdm hf, ?_, ?_⟩
    ·exact Option.isSome_iff_exists.mp (h2 y hm)
    ·rw [zdl (c.apart y j hj)]
     exact q
end
section
variable {cx : XCx} {ε : Sc} {A : Around} {env : Env} {F F₀ : AP} {s s₀ : Shared}
theorem Step.kept (ok : CxOk cx) (w₀ : Wd cx F₀ s₀) (x : Step cx F₀ s₀ F s) {wr : AP} (hw : ∀ b,wr b → s₀.heap.get? b = none ∧ ¬ F b) {h' : Heap} (k : Nat)
  (hk : ∀ a o, ¬ wr a → s.heap.get? a = some o → h'.get? a = some o) : Step cx F₀ s₀ F { s with heap := h',toks := k } := by
 have nf : ∀ a,F a → ¬ wr a := fun a h hm => (hw a hm).2 h
 have nx : ∀ a,cx.X a → ¬ wr a := fun a h hm => by
  obtain ⟨o,e⟩ := w₀.xex a h
  rw [(hw a hm).1] at e; injection e
 have w := x.wd
 refine ⟨x.sub,x.new,fun a o e ax => hk a o (fun hm => ?_) (x.keep a o e ax),x.os,⟨fun a o e ax => hk a o (nf a (w.f0 a o e ax)) (w.base a o e ax),ok.xi _ _ _ _ w.xi (fun _ h => h) (fun a o h e => hk a o (h.elim (nf a) (nx a)) e),w.gens,w.f0,fun a h => let ⟨o,e⟩ := w.lt a h; ⟨o,hk a o (nf a h) e⟩,w.nx,fun a h => let ⟨o,e⟩ := w.xex a h; ⟨o,hk a o (nx a h) e⟩⟩⟩
 rw [(hw a hm).1] at e; injection e
noncomputable def Tests (cx : XCx) (ε : Sc) (ifs : List Expr) (c : X) : Prop :=
 ∀ n cf A env F s ρ ad m cm,Here cx ε n cf A env F s ρ ad m cm → ∀ b,evT cf c ρ = some b → ∀ (Q : Bool → Shared → Prop) (E : VP),(∀ F' s',Step cx F s F' s' → Q b s') →
  wpAny (model cx.prog cx.w) A (forIn ifs true fun c r => if r = true then do let ok ← isTrue c env (eval c env); pure (ForInStep.yield ok) else pure (ForInStep.yield r)) Q E s
theorem zbL : Tests cx ε [] (.const (.bool true)) := by
 intro n cf A env F s ρ ad m cm H b hb Q E hQ
 have hb' : some true = some b := hb
 (injection hb' with hb'; subst hb')
 rw [List.forIn_nil]
 exact wpAny_pure (hQ F s (Step.refl H.wd))
theorem zc0 {t : Expr} {c : X} (h : Sound cx ε t c) : Tests cx ε [t] c := by
 intro n cf A env F s ρ ad m cm H b hb Q E hQ
 rw [List.forIn_cons]
 simp only [if_true]
 refine wb (wb (h.tr n cf A env F s ρ ad m cm H b hb _ _ fun F' s' st => wpAny_pure ?_))
 show wpAny _ _ (forIn [] b _) _ _ _
 rw [List.forIn_nil]
 exact wpAny_pure (hQ F' s' st)
noncomputable def TargetC (cx : XCx) (tg : Expr) (xs : List Str) (bind : D → Option (List D)) : Prop :=
 ∀ (A : Around) (F : AP) (s : Shared) (cenv : Env) (C : Addr) (m : SV) (v : Value) (d : D) (ds : List D),CxOk cx → Wd cx F s → A.handled = none → cenv.locals = C → (∀ x ∈ xs,cenv.kindOf x = some .local) →
  (cenv.scope.kind == .class || (cenv.scope.kind == .module && cenv.locals != cenv.globals)) = false → s.heap.Ns C m → ¬ F C → Rep cx.T F s.heap v d → bind d = some ds → ∀ (Q : Unit → Shared → Prop) (E : VP),
  (∀ h' tk vs,(∀ a o,a ≠ C → s.heap.get? a = some o → h'.get? a = some o) → h'.Ns C (updL m xs vs) → RepL cx.T F h' vs ds → Q () { s with heap := h',toks := tk }) → wpAny (model cx.prog cx.w) A (assign tg cenv v) Q E s
noncomputable def one1 (d : D) : Option (List D) := some [d]
noncomputable def two2 : D → Option (List D)
 | .tup [a,b] => some [a,b]
 | _ => none
theorem zaG {x : Str} {p : Pos} : TargetC cx (.Name x p) [x] one1 := by
 intro A F s cenv C m v d ds ok w hh hC hk hp hn nf hv hb Q E hQ
 (injection hb with hb; subst hb)
 subst hC
 refine wpAny_assign_Name (wpAny_storeName_local (hk x List.mem_cons_self) hn (fun h' hn' sb => ?_) hp)
 have keep : ∀ a o,a ≠ cenv.locals → s.heap.get? a = some o → h'.get? a = some o := fun a o h e => (sb.2 a h).trans e
 exact hQ h' _ [v] keep hn' (.cons (hv.mono (fun _ h => h) fun a o f e => keep a o (fun e => nf (e ▸ f)) e) .nil)
theorem zgx {x y : Str} {p p' pos : Pos} {k : Nat} : TargetC cx (.Tuple [.Name x p,.Name y p'] k pos) [x,y] two2 := by
 intro A F s cenv C m v d ds ok w hh hC hk hp hn nf hv hb Q E hQ
 unfold two2 at hb
 split at hb <;> (first | (injection hb; done) | (injection hb with hb; subst hb))
 rename_i da db
 subst hC
 cases hv with
 | @tup a vs j _ f g z q =>
 have ht : s.heap.IsTuple a vs.toArray := ⟨_,g,rfl,j,rfl⟩
 refine wpAny_assign_Tuple hh ht (by rw [List.size_toArray,q.length]; rfl) rfl fun h₁ he => ?_
 have keep1 : ∀ b o,s.heap.get? b = some o → h₁.get? b = some o := fun b o e => he b o (Nat.ne_of_lt (Heap.lt_size e)) e
 cases q with
 | @cons va _ _ _ ra q => cases q with
 | @cons vb _ _ _ rb q =>
 cases q
 show wpAny _ _ (do holding [vb] (assign (.Name x p) cenv va); holding [] (assign (.Name y p') cenv vb); pure ()) _ _ _
 have hn1 : h₁.Ns cenv.locals m := hn.at' fun o e => keep1 _ o e
 refine wb (wpAny_holding (wpAny_assign_Name (wpAny_storeName_local (s := { s with heap := h₁ }) (hk x List.mem_cons_self) hn1 (fun h2 hn2 sb2 => ?_) hp)))
 refine wb (wpAny_holding (wpAny_assign_Name (wpAny_storeName_local (hk y (List.mem_cons_of_mem _ List.mem_cons_self)) hn2 (fun h3 hn3 sb3 => wpAny_pure ?_) hp)))
 have keep : ∀ a o,a ≠ cenv.locals → s.heap.get? a = some o → h3.get? a = some o := fun a o h e => (sb3.2 a h).trans ((sb2.2 a h).trans (keep1 a o e))
 have keepF : ∀ a o,F a → s.heap.get? a = some o → h3.get? a = some o := fun a o f e => keep a o (fun e => nf (e ▸ f)) e
 exact hQ h3 _ [va,vb] keep hn3 (.cons (ra.mono (fun _ h => h) keepF) (.cons (rb.mono (fun _ h => h) keepF) .nil))
end
theorem zgk {prog : Program} {w : World} {A : Around} {R : Result → Shared → Prop} {s : Shared} {elt target iter : Expr} {ifs : List Expr} {scope : Scope} {pos : Pos} {it acc : Value} {env : Env} (I : Nat → Shared → Prop)
  (turn : ∀ n s,I n s → wpAny (model prog w) A (pyNext it) (fun r s₁ => match r with
   | none => R (.ok .next) s₁
   | some v => wpAny (model prog w) A (letOwnedTupleGo target it v) (fun _ s₁' => wpAny (model prog w) A (assign target env v) (fun _ s₂ =>
     wpAny (model prog w) A (forIn ifs true fun c r => if r = true then do let ok ← isTrue c env (eval c env); pure (ForInStep.yield ok) else pure (ForInStep.yield r)) (fun ok s₃ =>
      if ok = true then wpAny (model prog w) A (eval elt env) (fun x s₄ =>
       wpAny (model prog w) A (call (.builtin "list.append") [acc,x]) (fun _ s₅ => ∃ m,m < n ∧ I m s₅) (notedBy (model prog w) A env fun e s' => R (.error e) s') s₄) (notedBy (model prog w) A env fun e s' => R (.error e) s') s₃
      else ∃ m,m < n ∧ I m s₃) (notedBy (model prog w) A env fun e s' => R (.error e) s') s₂) (notedBy (model prog w) A env fun e s' => R (.error e) s') s₁') (notedBy (model prog w) A env fun e s' => R (.error e) s') s₁) (notedBy (model prog w) A env fun e s' => R (.error e) s') s)
  (n : Nat) (h : I n s) :
  codeAny (model prog w) A (.compLoop (.ListComp elt [⟨target,iter,ifs,0⟩] scope pos) 0 it acc env) R s := by
 refine codeAny_loop rfl I (fun n s hI => ?_) n h
 show wpAny _ A ((compTurn (.ListComp elt [⟨target,iter,ifs,0⟩] scope pos) 0 it acc env).onRaise (fun x => do noteFrame x env; theTreesLotGoes x)) _ _ s
 refine wpAny_noted ?_
 rw [compTurn_list]
 refine wb (wpAny_standAt (wb (wpAny_mono (turn n s hI) (fun r s₁ h₁ => ?_) fun _ _ h' => h')))
 cases r with
 | none => exact wpAny_pure h₁
 | some v =>
  refine wb (wpAny_mono h₁ (fun _ s₁' h₁' => ?_) fun _ _ h' => h')
  refine wb (wpAny_mono h₁' (fun _ s₂ h₂ => wb (wpAny_mono h₂ (fun ok s₃ h₃ => ?_) fun _ _ h' => h')) fun _ _ h' => h')
  cases ok with
  | false => exact wpAny_pure ⟨rfl,h₃⟩
  | true =>
   exact wb (wb (wpAny_mono h₃ (fun x s₄ h₄ => wb (wpAny_mono h₄ (fun _ s₅ h₅ => wpAny_pure (wpAny_pure ⟨rfl,h₅⟩)) fun _ _ h' => h')) fun _ _ h' => h'))
noncomputable def turnC (cf : CfT) (is : List Nat) (bind : D → Option (List D)) (c e : X) (ρ : List Slot) (d : D) : Option (Option D) :=
 match bind d with
 | some ds => turnD (ev cf c (setAll ρ is ds)) (ev cf e (setAll ρ is ds))
 | none => none
set_option genInjectivity false in
structure AccK (cx : XCx) (e elt tg iter : Expr) (ifs : List Expr) (mk : Sem Value) (aid : String) (P : Obj → List Value → List D → Prop) (good : List D → Prop) : Prop where
 cl : clausesOf e = [⟨tg,iter,ifs,0⟩]
 start : ∀ {A : Around} {R : Result → Shared → Prop} {s : Shared} {it acc : Value} {env : Env},codeAny (model cx.prog cx.w) A (.compLoop e 0 it acc env) R s →
  wpAny (model cx.prog cx.w) A (pyIter it) (fun it' s' => codeAny (model cx.prog cx.w) A (.compLoop e 0 it' acc env) R s') (notedBy (model cx.prog cx.w) A env fun x s' => R (.error x) s') s → codeAny (model cx.prog cx.w) A (.compStart e 0 it acc env) R s
 loop : ∀ {A : Around} {R : Result → Shared → Prop} {s : Shared} {it acc : Value} {env : Env} (I : Nat → Shared → Prop)
  (turn : ∀ n s,I n s → wpAny (model cx.prog cx.w) A (pyNext it) (fun r s₁ => match r with
   | none => R (.ok .next) s₁
   | some v => wpAny (model cx.prog cx.w) A (letOwnedTupleGo tg it v) (fun _ s₁' => wpAny (model cx.prog cx.w) A (assign tg env v) (fun _ s₂ =>
     wpAny (model cx.prog cx.w) A (forIn ifs true fun c r => if r = true then do let ok ← isTrue c env (eval c env); pure (ForInStep.yield ok) else pure (ForInStep.yield r)) (fun ok s₃ =>
      if ok = true then wpAny (model cx.prog cx.w) A (eval elt env) (fun x s₄ =>
       wpAny (model cx.prog cx.w) A (call (.builtin aid) [acc,x]) (fun _ s₅ => ∃ m,m < n ∧ I m s₅) (notedBy (model cx.prog cx.w) A env fun e s' => R (.error e) s') s₄) (notedBy (model cx.prog cx.w) A env fun e s' => R (.error e) s') s₃
      else ∃ m,m < n ∧ I m s₃) (notedBy (model cx.prog cx.w) A env fun e s' => R (.error e) s') s₂) (notedBy (model cx.prog cx.w) A env fun e s' => R (.error e) s') s₁') (notedBy (model cx.prog cx.w) A env fun e s' => R (.error e) s') s₁) (notedBy (model cx.prog cx.w) A env fun e s' => R (.error e) s') s)
  (n : Nat) (h : I n s),codeAny (model cx.prog cx.w) A (.compLoop e 0 it acc env) R s
 new : ∀ {A : Around} {Q E : VP} {s : Shared},(∀ o : Obj,P o [] [] → o.isFreed = false → Q (.ref s.heap.objs.size) { s with heap := s.heap.push o }) → wpAny (model cx.prog cx.w) A mk Q E s
 pre : ∀ {a b : List D},good (a ++ b) → good a
 add : ∀ {A : Around} {Q E : VP} {s : Shared} {F : AP} {Da : Addr} {o : Obj} {ys : List Value} {ds : List D} {v : Value} {y : D},s.heap.get? Da = some o → P o ys ds → ys.length ≤ lim → Rep cx.T F s.heap v y → good (ds ++ [y]) →
  (∀ h' tk o',Heap.SameBut Da s.heap h' → h'.get? Da = some o' → P o' (ys ++ [v]) (ds ++ [y]) → Q .none { s with heap := h',toks := tk }) → wpAny (model cx.prog cx.w) A (call (.builtin aid) [.ref Da,v]) Q E s
inductive CoreI (P : Obj → List Value → List D → Prop) (cx : XCx) (F : AP) (s : Shared) (F1 : AP) (h1 : Heap) (wr : List Addr) (Da C : Addr) (St : Nat → Heap → Prop) (items l : List D) (go : List D → Option (List D)) (k : Nat) (s' : Shared) : Prop
 | mk (j : Nat) (F' : AP) (ys : List Value) (ds : List D) (kk : Obj) (m' : SV) (hj : j ≤ items.length) (hk : k = items.length - j) (st : Step cx F s F' s') (hrep : ∀ v d,Rep cx.T F1 h1 v d → Rep cx.T F' s'.heap v d) (hF : ∀ a,F1 a → F' a) (hst : St j s'.heap)
  (hwr : ∀ b ∈ wr, ¬ F' b) (hnD : ¬ F' Da) (hnC : ¬ F' C) (hD : s'.heap.get? Da = some kk) (hP : P kk ys ds) (hys : RepL cx.T F' s'.heap ys ds) (hyl : ys.length ≤ j) (hns : s'.heap.Ns C m') (rest : List D) (hgo : go (items.drop j) = some rest) (hrest : l = ds ++ rest)
set_option genInjectivity false in
structure CoreL (cx : XCx) (F1 : AP) (h1 : Heap) (wr : List Addr) (Da C : Addr) (St : Nat → Heap → Prop) (j : Nat) (ys : List Value) (ds : List D) (kk : Obj) (m' : SV) (F4 : AP) (h4 : Heap) : Prop where
 p1 : ∀ v d,Rep cx.T F1 h1 v d → Rep cx.T F4 h4 v d
 p2 : ∀ a,F1 a → F4 a
 p3 : St j h4
 p4 : ∀ b ∈ wr, ¬ F4 b
 p5 : ¬ F4 Da
 p6 : ¬ F4 C
 p7 : h4.get? Da = some kk
 p8 : RepL cx.T F4 h4 ys ds
 p9 : h4.Ns C m'
inductive CoreT (cf : CfT) (c e : X) (ρ : List Slot) (go : Option (List D)) (rest : List D) : Prop
 | skip : truthR (ev cf c ρ) = some false → go = some rest → CoreT cf c e ρ go rest
 | take (r : R) (y : D) (ys : List D) : truthR (ev cf c ρ) = some true → ev cf e ρ = some [r] → r.fz = some y → go = some ys → rest = y :: ys → CoreT cf c e ρ go rest
theorem zin {f : D → Option (Option D)} {d : D} {r rest : List D} (h : compGo f (d :: r) = some rest) : (f d = some none ∧ compGo f r = some rest) ∨ ∃ y ys,f d = some (some y) ∧ compGo f r = some ys ∧ rest = y :: ys := by
 unfold compGo at h
 cases e : f d with
 | none => rw [e] at h; injection h
 | some o =>
  rw [e] at h
  cases o with
  | none => exact .inl ⟨rfl,h⟩
  | some y =>
   cases e2 : compGo f r with
   | none => simp only [e2] at h; injection h
   | some ys => simp only [e2] at h; (injection h with h; subst h); exact .inr ⟨y,ys,rfl,rfl,rfl⟩
theorem zfM {c e : Option (List R)} {o : Option D} (h : turnD c e = some o) : (truthR c = some false ∧ o = none) ∨ ∃ r y,truthR c = some true ∧ e = some [r] ∧ r.fz = some y ∧ o = some y := by
 unfold turnD at h
 cases t : truthR c with
 | none => rw [t] at h; injection h
 | some b =>
  rw [t] at h
  cases b with
  | false => (injection h with h; subst h); exact .inl ⟨rfl,rfl⟩
  | true =>
   rcases e with _ | _ | ⟨r,_ | ⟨_,_⟩⟩ <;> try (injection h; done)
   obtain ⟨y,e1,e2⟩ := Option.map_eq_some_iff.mp (show r.fz.map some = some o from h)
   exact .inr ⟨r,y,rfl,rfl,e1,e2.symm⟩
theorem zj2 {cf : CfT} {is : List Nat} {bind : D → Option (List D)} {c e : X} {ρ : List Slot} {d : D} {r rest : List D} (h : compGo (turnC cf is bind c e ρ) (d :: r) = some rest) :
  ∃ dv,bind d = some dv ∧ CoreT cf c e (setAll ρ is dv) (compGo (turnC cf is bind c e ρ) r) rest := by
 have key : ∀ {o},turnC cf is bind c e ρ d = some o → ∃ dv,bind d = some dv ∧ turnD (ev cf c (setAll ρ is dv)) (ev cf e (setAll ρ is dv)) = some o := by
  intro o h
  cases q : bind d with
  | none => simp only [turnC,q] at h; injection h
  | some dv => simp only [turnC,q] at h; exact ⟨dv,rfl,h⟩
 rcases zin h with ⟨h1,h2⟩ | ⟨y,ys,h1,h2,h3⟩
 ·obtain ⟨dv,e1,e2⟩ := key h1
  refine ⟨dv,e1, ?_⟩
  rcases zfM e2 with ⟨t,_⟩ | ⟨_,_,_,_,_,q⟩
  ·exact .skip t h2
  ·injection q
 ·obtain ⟨dv,e1,e2⟩ := key h1
  refine ⟨dv,e1, ?_⟩
  rcases zfM e2 with ⟨_,q⟩ | ⟨r',y',t,a,b,q⟩
  ·injection q
  ·(injection q with q; subst q); exact .take r' y ys t a b h2 h3
section
variable {cx : XCx} {ε : Sc}
theorem ze4 {ex elt iter tg : Expr} {ifs : List Expr} {mk : Sem Value} {aid : String} {PA : Obj → List Value → List D → Prop} {good : List D → Prop} (K : AccK cx ex elt tg iter ifs mk aid PA good) {scope : Scope} {cpos : Pos} {xs : List Str} {is : List Nat} {bind : D → Option (List D)} {c e it : X}
  (hT : TargetC cx tg xs bind) (hb : ∀ d ds,bind d = some ds → ds.length = is.length) (hi : SoundI cx ε iter it) (ok : CompOK ε scope xs is) (hc : Tests cx (compSc ε scope (xs.zip is)) ifs c) (he : Sound cx (compSc ε scope (xs.zip is)) elt e)
  (hs : ∀ env x,foldedSetIterable iter env x = pure x)
  {n cf A env F s ρ ad m cm} (H : Here cx ε n cf A env F s ρ ad m cm) {items l : List D} (hit : evI cf it ρ = some items) (hl : compGo (turnC cf is bind c e ρ) items = some l)
  (hgood : good l) {use : Option (Value → Sem Unit)} {Q E : VP}
  (hRR : ∀ Da C F' s' m' ob ys,Step cx F s F' s' → s.heap.get? Da = none → ¬ F' Da → ¬ cx.X Da → s'.heap.get? Da = some ob → PA ob ys l → RepL cx.T F' s'.heap ys l → ys.length ≤ lim → s'.heap.Ns C m' → s.heap.get? C = none → ¬ F' C → C ≠ Da → compPost (model cx.prog cx.w) A E use Q (.ref Da) C (.ok .next) s') :
  wpAny (model cx.prog cx.w) A (comprehension ex scope env cpos mk false (eval iter env) use) Q E s := by
 obtain ⟨cl,hclos,h1,h2⟩ := H.env.closure ok
 refine wpAny_comprehension_free K.cl (hs env) hclos ok.kind ok.names (hi n cf A env F s ρ ad m cm H items hit _ _ fun I F1 s1 fp wr P St J => ?_)
 refine K.new fun o0 hP0 hfr => ?_
 refine (wpAny_newFunctionEnv ok.nocell (by intro y hy; simp at hy) (fun h₁ hns₁ hsb₁ => ?_) ok.kind)
 dsimp only at hns₁ hsb₁ ⊢
 generalize hH2 : s1.heap.push o0 = H2 at hns₁ hsb₁ ⊢
 generalize hD : s1.heap.objs.size = Da
 generalize hCe : H2.objs.size = C at hns₁ hsb₁
 have hCD : C = Da + 1 := by rw [← hCe, ← hD, ← hH2,Heap.size_push]
 have hDC : C ≠ Da := by rw [hCD]; exact Nat.succ_ne_self Da
 have fr : ∀ a,Da ≤ a → s1.heap.get? a = none := fun a ha => by
  cases e : s1.heap.get? a with
  | none => rfl
  | some o' => exact absurd (hD ▸ Heap.lt_size e) (Nat.not_lt.mpr ha)
 have lt1 : ∀ b o,s1.heap.get? b = some o → b ≠ C ∧ b ≠ Da := fun b o e => ⟨Nat.ne_of_lt (by rw [hCD]; exact Nat.lt_succ_of_lt (hD ▸ Heap.lt_size e)),Nat.ne_of_lt (hD ▸ Heap.lt_size e)⟩
 have old : ∀ b o,s1.heap.get? b = some o → h₁.get? b = some o := fun b o e => hsb₁.extBut b o (lt1 b o e).1 (Heap.get?_push_of_some _ (hH2 ▸ Heap.get?_push_of_some _ e))
 have hacc : h₁.get? Da = some o0 := hsb₁.extBut _ _ hDC.symm (Heap.get?_push_of_some _ (by rw [← hH2, ← hD]; exact Heap.get?_push_size _ hfr))
 have frD := fr Da (Nat.le_refl _)
 have frC := fr C (by rw [hCD]; exact Nat.le_succ Da)
 have xD : ¬ cx.X Da := J.st.wd.newNotX frD
 have xC : ¬ cx.X C := J.st.wd.newNotX frC
 have frD0 : s.heap.get? Da = none := J.st.fresh xD frD
 have frC0 : s.heap.get? C = none := J.st.fresh xC frC
 have st1 : Step cx F s F1 { s1 with heap := h₁,toks := s1.toks + ([] : List (Str × Value)).length } := J.st.trans (Step.grown H.ok J.st.wd _ old)
 have loop : ∀ s₃ : Shared,s₃ = { s1 with heap := h₁,toks := s1.toks + ([] : List (Str × Value)).length } →
   codeAny (model cx.prog cx.w) A (.compLoop ex 0 (.ref I) (.ref Da) (compEnvC scope cl C env)) (compPost (model cx.prog cx.w) A E use Q (.ref Da) C) s₃ := by
  rintro s₃ rfl
  refine K.loop (CoreI PA cx F s F1 s1.heap wr Da C St items l (compGo (turnC cf is bind c e ρ))) (fun k s' hI => ?_) items.length
   ⟨0,F1,[],[],o0,_,Nat.zero_le _,rfl,st1,fun v d r => r.mono (fun _ h => h) fun a o _ e => old a o e,fun _ h => h,(J.W A H.bud.hd).frame _ _ _ J.s0 fun b _ o e => old b o e,fun b hb => (J.new b hb).2,J.st.wd.newNotF frD,J.st.wd.newNotF frC,hacc,hP0,.nil,Nat.le_refl _,hns₁,l,hl,rfl⟩
  obtain ⟨j,F',ys,ds,kk,m',hj,rfl,st',hrep,hF,hst,hwr,hnD,hnC,hD',hPo,hys,hyl,hns',rest,hgo,hrest⟩ := hI
  obtain ⟨o0,T0,gI,_,_⟩ := J.ty 0 _ J.s0
  have hwI : ∀ b ∈ wr,b ≠ C ∧ b ≠ Da := fun b hb => by rw [J.one b hb]; exact lt1 I _ gI
  have dC : C ∉ wr := fun h => (hwI C h).1 rfl
  have dD : Da ∉ wr := fun h => (hwI Da h).2 rfl
  have hwn : ∀ b,b ∈ wr → s.heap.get? b = none ∧ ¬ F' b := fun b hb => ⟨(J.new b hb).1,hwr b hb⟩
  have xwr : ∀ b ∈ wr, ¬ cx.X b := fun b hb h => by
   obtain ⟨o,e⟩ := H.wd.xex b h
   rw [(J.new b hb).1] at e; injection e
  rcases Nat.lt_or_ge j items.length with hlt | hge
  ·refine (J.W A H.bud.hd).item j s' _ _ hlt hst fun v h' tk hP hst' hk => ?_
   have st2 := st'.kept H.ok H.wd (wr := (· ∈ wr)) hwn tk hk
   obtain ⟨d,hd,hr⟩ := J.item j v hP
   have hdrop : items.drop j = d :: items.drop (j + 1) := by
    have h1 : items[j]? = some items[j] := List.getElem?_eq_getElem hlt
    rw [h1] at hd
    (injection hd with hd; subst hd)
    exact List.drop_eq_getElem_cons hlt
   rw [hdrop] at hgo
   obtain ⟨dv,hdv,hturn⟩ := zj2 hgo
   obtain ⟨ob,T,g1,g2,g3⟩ := J.ty _ _ hst'
   have keepF : ∀ a o,F' a → s'.heap.get? a = some o → h'.get? a = some o := fun a o f e => hk a o (fun hm => hwr a hm f) e
   have hr2 : ∀ v d,Rep cx.T F1 s1.heap v d → Rep cx.T F' h' v d := fun v d hr => (hrep v d hr).mono (fun _ h => h) keepF
   refine zhx (s := { s' with heap := h',toks := tk }) g1 g2 g3 ?_
   have hnC' : h'.Ns C m' := hns'.at' fun o e => hk C o dC e
   refine hT A F' { s' with heap := h',toks := tk } (compEnvC scope cl C env) C m' v d dv H.ok st2.wd H.bud.hd rfl (fun x hx => lookup_relabel_local (ok.xl x hx)) (by simp [compEnvC,relabel,ok.kind]) hnC' hnC (hr2 v d hr) hdv _ _ fun h3 tk3 vs3 hk3 hns3 hr3 => ?_
   have st3 : Step cx F s F' { s' with heap := h3,toks := tk3 } := st2.kept H.ok H.wd (wr := (· = C)) (fun b hb => by subst hb; exact ⟨frC0,hnC⟩) tk3 hk3
   have keep3 : ∀ a o,F' a → s'.heap.get? a = some o → h3.get? a = some o := fun a o f e => hk3 a o (fun e => hnC (e ▸ f)) (keepF a o f e)
   have H3 : Here cx (compSc ε scope (xs.zip is)) n cf A (compEnvC scope cl C env) F' { s' with heap := h3,toks := tk3 } (setAll ρ is dv) ad (updL m' xs vs3) cm :=
    ⟨H.ok,H.calls,H.bud,st3.wd,(H.step st3).env.comp ok h1 h2 xC hns3 (hb d dv hdv) hr3⟩
   have hst3 : St (j + 1) h3 := (J.W A H.bud.hd).frame _ _ _ hst' fun b hb o e => hk3 b o (by
    rcases J.deps b hb with h | h
    ·exact (hwI b h).1
    ·exact fun e => hnC (e ▸ hF b h)) e
   have hD3 : h3.get? Da = some kk := hk3 Da _ hDC.symm (hk Da _ dD hD')
   have later : ∀ {F4 s4},Step cx F' { s' with heap := h3,toks := tk3 } F4 s4 → CoreL cx F1 s1.heap wr Da C St (j + 1) ys ds kk (updL m' xs vs3) F4 s4.heap := by
    intro F4 s4 y
    have isC : ∃ o,h3.get? C = some o := by obtain ⟨o,_,_,e,_⟩ := hns3; exact ⟨o,e⟩
    obtain ⟨oC,eC⟩ := isC
    obtain ⟨ob3,T3,g13,_,_⟩ := J.ty _ _ hst3
    refine ⟨fun v d q => y.rep H3.wd ((hr2 v d q).mono (fun _ h => h) fun a o f e => hk3 a o (fun e => hnC (e ▸ f)) e),fun a h => y.sub a (hF a h),(J.W A H.bud.hd).frame _ _ _ hst3 fun b hb o e => ?_,fun b hb => ?_,y.notF hnD hD3,y.notF hnC eC,y.keep _ _ hD3 xD,y.repL H3.wd (hys.mono (fun _ h => h) keep3),hns3.at' fun o e => y.keep _ o e xC⟩
    ·rcases J.deps b hb with h | h
     ·exact y.keep b o e (xwr b h)
     ·exact y.keep b o e (H3.wd.nx b (hF b h))
    ·exact y.notF (hwr b hb) (by rw [J.one b hb]; exact g13)
   cases hturn with
   | skip htr hgo' =>
    refine hc n cf A _ F' _ _ ad _ cm H3 false htr _ _ fun F4 s4 st4 => ?_
    obtain ⟨p1,p2,p3,p4,p5,p6,p7,p8,p9⟩ := later st4
    rw [if_neg (by decide)]
    exact ⟨items.length - (j + 1),Nat.sub_lt_sub_left hlt (Nat.lt_succ_self j),j + 1,F4,ys,ds,kk,_,hlt,rfl,st3.trans st4,p1,p2,p3,p4,p5,p6,p7,hPo,p8,by omega,p9,rest,hgo',hrest⟩
   | take r y ys' htr e1 e2 e4 e5 =>
     refine hc n cf A _ F' _ _ ad _ cm H3 true htr _ _ fun F4 s4 st4 => ?_
     rw [if_pos rfl]
     have H4 := H3.step st4
     refine he.ev n cf A _ F4 s4 _ ad _ cm H4 r e1 _ _ fun v5 F5 s5 st5 q5 => ?_
     obtain ⟨F6,st6,_,r6⟩ := st5.fz H.ok st4.wd q5 e2
     obtain ⟨p1,p2,p3,p4,p5,p6,p7,p8,p9⟩ := later (st4.trans st6)
     have hlen : ys.length < lim := by have := J.lim; omega
     have hgd : good (ds ++ [y]) := K.pre (b := ys') (by rw [List.append_assoc]; have := hrest; rw [e5] at this; exact this ▸ hgood)
     refine K.add p7 hPo (Nat.le_of_lt hlen) r6 hgd fun h7 tk7 k7 sb7 hl7 hP7 => ?_
     have st7 : Step cx F s F6 { s5 with heap := h7,toks := tk7 } := (st3.trans (st4.trans st6)).kept H.ok H.wd (wr := (· = Da)) (fun b hb => by subst hb; exact ⟨frD0,p5⟩) tk7 fun a o h e => (sb7.2 a h).trans e
     have keep7 : ∀ a o,F6 a → s5.heap.get? a = some o → h7.get? a = some o := fun a o f e => (sb7.2 a fun e => p5 (e ▸ f)).trans e
     refine ⟨items.length - (j + 1),Nat.sub_lt_sub_left hlt (Nat.lt_succ_self j),j + 1,F6,ys ++ [v5],ds ++ [y],k7,_,hlt,rfl,st7,fun v d q => (p1 v d q).mono (fun _ h => h) keep7,p2,(J.W A H.bud.hd).frame _ _ _ p3 fun b hb o e => (sb7.2 b ?_).trans e,p4,p5,p6,hl7,hP7,(p8.append (.cons r6 .nil)).mono (fun _ h => h) keep7,by rw [List.length_append]; simp; omega,p9.sameBut sb7 hDC,ys',e4,by rw [hrest,e5]; simp⟩
     rcases J.deps b hb with h | h
     ·exact (hwI b h).2
     ·exact fun e => p5 (e ▸ p2 b h)
  ·have ej : j = items.length := Nat.le_antisymm (by assumption) (by assumption)
   subst ej
   rw [List.drop_length] at hgo
   (injection hgo with hgo; subst hgo)
   refine (J.W A H.bud.hd).done s' _ _ hst fun h' tk hk => ?_
   have st2 := st'.kept H.ok H.wd (wr := (· ∈ wr)) hwn tk hk
   have keepF : ∀ a o,F' a → s'.heap.get? a = some o → h'.get? a = some o := fun a o f e => hk a o (fun hm => hwr a hm f) e
   rw [List.append_nil] at hrest
   subst hrest
   exact hRR Da C F' _ m' kk ys st2 frD0 hnD xD (hk Da _ dD hD') hPo (hys.mono (fun _ h => h) keepF) (by have := J.lim; omega) (hns'.at' fun o e => hk C o dC e) frC0 hnC hDC
 exact K.start (loop _ rfl) ((J.W A H.bud.hd).self 0 _ _ _ ((J.W A H.bud.hd).frame _ _ _ J.s0 fun b _ o e => old b o e) (loop _ rfl))
noncomputable def LsP (o : Obj) (ys : List Value) (_ : List D) : Prop := ∃ k,o = lobj ys.toArray k
theorem accList {elt tg iter : Expr} {ifs : List Expr} {scope : Scope} {pos : Pos} : AccK cx (.ListComp elt [⟨tg,iter,ifs,0⟩] scope pos) elt tg iter ifs (newList []) "list.append" LsP (fun _ => True) where
 cl := rfl
 start := fun h0 h => codeAny_compStart_list h0 h
 loop := fun I turn n h => zgk I turn n h
 new := fun h => wpAny_newObj_type (h _ ⟨0,rfl⟩ rfl)
 pre := fun _ => trivial
 add := fun {A Q E s F Da o ys ds v y} g hP z r _ h => by
  obtain ⟨k,rfl⟩ := hP
  refine wpAny_list_append_plain ⟨k,g⟩ (fun h7 hl7 sb7 => ?_) (by rw [List.size_toArray]; exact zaB z)
  obtain ⟨k7,hl7⟩ := hl7
  have e7 : ys.toArray.push v = (ys ++ [v]).toArray := by simp
  rw [e7] at hl7
  exact h h7 s.toks _ sb7 hl7 ⟨k7,rfl⟩
theorem zgi {elt iter tg : Expr} {ifs : List Expr} {scope : Scope} {pos cpos : Pos} {xs : List Str} {is : List Nat} {bind : D → Option (List D)} {c e it : X}
  (hT : TargetC cx tg xs bind) (hb : ∀ d ds,bind d = some ds → ds.length = is.length) (hi : SoundI cx ε iter it) (ok : CompOK ε scope xs is) (hc : Tests cx (compSc ε scope (xs.zip is)) ifs c) (he : Sound cx (compSc ε scope (xs.zip is)) elt e)
  (hs : ∀ env x,foldedSetIterable iter env x = pure x)
  {n cf A env F s ρ ad m cm} (H : Here cx ε n cf A env F s ρ ad m cm) {items l : List D} (hit : evI cf it ρ = some items) (hl : compGo (turnC cf is bind c e ρ) items = some l)
  {use : Option (Value → Sem Unit)} {Q E : VP}
  (hRR : ∀ Da C F' s' m',Step cx F s F' s' → RepR cx F' s.heap s'.heap (.ref Da) (.own l) → s'.heap.Ns C m' → s.heap.get? C = none → ¬ F' C → C ≠ Da → compPost (model cx.prog cx.w) A E use Q (.ref Da) C (.ok .next) s') :
  wpAny (model cx.prog cx.w) A (comprehension (.ListComp elt [⟨tg,iter,ifs,0⟩] scope pos) scope env cpos (newList []) false (eval iter env) use) Q E s :=
 ze4 accList hT hb hi ok hc he hs H hit hl trivial fun Da C F' s' m' ob ys st f0 nf nx g hP q z hn c1 c2 c3 => by
  obtain ⟨k,rfl⟩ := hP
  exact hRR Da C F' s' m' st (.own f0 nf nx g z q) hn c1 c2 c3
end
section
variable {cx : XCx} {ε : Sc}
theorem ze3 {elt iter tg : Expr} {ifs : List Expr} {scope : Scope} {pos : Pos} {xs : List Str} {is : List Nat} {bind : D → Option (List D)} {c e it : X}
  (hT : TargetC cx tg xs bind) (hb : ∀ d ds,bind d = some ds → ds.length = is.length) (hi : SoundI cx ε iter it) (ok : CompOK ε scope xs is) (hc : Tests cx (compSc ε scope (xs.zip is)) ifs c) (he : Sound cx (compSc ε scope (xs.zip is)) elt e)
  (hs : ∀ env x,foldedSetIterable iter env x = pure x)
  {n cf A env F s ρ ad m cm} (H : Here cx ε n cf A env F s ρ ad m cm) {items l : List D} (hit : evI cf it ρ = some items) (hl : compGo (turnC cf is bind c e ρ) items = some l)
  {Q E : VP} (hQ : Post cx F s (.own l) Q) :
  wpAny (model cx.prog cx.w) A (eval (.ListComp elt [⟨tg,iter,ifs,0⟩] scope pos) env) Q E s := by
 rw [eval_ListComp]
 refine zgi (use := none) hT hb hi ok hc he hs H hit hl fun Da C F' s' m' st q hn frC nC hne => ?_
 refine ⟨m',hn,fun h'' sb => ?_⟩
 have st2 : Step cx F s F' { s' with heap := h'' } := st.kept H.ok H.wd (wr := (· = C)) (fun b hb => by subst hb; exact ⟨frC,nC⟩) s'.toks fun a o h e => (sb.2 a h).trans e
 refine hQ _ F' _ st2 ?_
 cases q with
 | own lo nf nx g z q => exact .own lo nf nx ((sb.2 Da hne.symm).trans g) z (q.mono (fun _ h => h) fun a o f e => (sb.2 a fun e => nC (e ▸ f)).trans e)
theorem zg9 {cf : CfT} {i : Nat} {it c e : X} {ρ : List Slot} {r : R} (h : ev cf (.comp i it c e) ρ = some [r]) : ∃ items l,evI cf it ρ = some items ∧ compGo (turnC cf [i] one1 c e ρ) items = some l ∧ r = .own l := by
 replace h := (zbp _).symm.trans h
 split at h
 ·rename_i items e1
  obtain ⟨l,e2,e3⟩ := Option.map_eq_some_iff.mp h
  (injection e3 with e3 z; injection z; subst e3)
  refine ⟨items,l,by unfold evI; rw [e1],e2,rfl⟩
 ·injection h
theorem zk9 {cf : CfT} {i j : Nat} {it c e : X} {ρ : List Slot} {r : R} (h : ev cf (.comp2 i j it c e) ρ = some [r]) : ∃ items l,evI cf it ρ = some items ∧ compGo (turnC cf [i,j] two2 c e ρ) items = some l ∧ r = .own l := by
 replace h := (za1 _).symm.trans h
 split at h
 ·rename_i items e1
  obtain ⟨l,e2,e3⟩ := Option.map_eq_some_iff.mp h
  (injection e3 with e3 z; injection z; subst e3)
  refine ⟨items,l,by unfold evI; rw [e1], ?_,rfl⟩
  rw [← e2]
  congr 1
  funext d
  unfold turnC two2
  split
  ·rename_i ds q
   split at q <;> (first | (injection q; done) | (injection q with q; subst q))
   rfl
  ·rename_i q
   split at q
   ·injection q
   ·rename_i hne
    first
    | rfl
    | (split; exact absurd rfl (hne _ _); rfl)
 ·injection h
set_option genInjectivity false in
structure CompX (cx : XCx) (ε : Sc) (elt iter tg : Expr) (ifs : List Expr) (scope : Scope) (xs : List Str) (is : List Nat) (bind : D → Option (List D)) (it c e : X) : Prop where
 hT : TargetC cx tg xs bind
 hb : ∀ d ds,bind d = some ds → ds.length = is.length
 hi : SoundI cx ε iter it
 ok : CompOK ε scope xs is
 hc : Tests cx (compSc ε scope (xs.zip is)) ifs c
 he : Sound cx (compSc ε scope (xs.zip is)) elt e
 hs : ∀ env x,foldedSetIterable iter env x = pure x
theorem zcx {elt iter tg : Expr} {ifs : List Expr} {scope : Scope} {pos : Pos} {x : Str} {i : Nat} {it c e : X} (h : CompX cx ε elt iter tg ifs scope [x] [i] one1 it c e) :
  Sound cx ε (.ListComp elt [⟨tg,iter,ifs,0⟩] scope pos) (.comp i it c e) := by
 refine Sound.ofE ?_ fun _ => rfl
 intro n cf A env F s ρ ad m cm H r hr Q E hQ
 obtain ⟨items,l,e1,e2,rfl⟩ := zg9 hr
 exact ze3 h.hT h.hb h.hi h.ok h.hc h.he h.hs H e1 e2 hQ
theorem zgB {elt iter tg : Expr} {ifs : List Expr} {scope : Scope} {pos : Pos} {x y : Str} {i j : Nat} {it c e : X} (h : CompX cx ε elt iter tg ifs scope [x,y] [i,j] two2 it c e) :
  Sound cx ε (.ListComp elt [⟨tg,iter,ifs,0⟩] scope pos) (.comp2 i j it c e) := by
 refine Sound.ofE ?_ fun _ => rfl
 intro n cf A env F s ρ ad m cm H r hr Q E hQ
 obtain ⟨items,l,e1,e2,rfl⟩ := zk9 hr
 exact ze3 h.hT h.hb h.hi h.ok h.hc h.he h.hs H e1 e2 hQ
theorem zj3 {elt iter tg : Expr} {ifs : List Expr} {scope : Scope} {pos spos py : Pos} {xs : List Str} {is : List Nat} {bind : D → Option (List D)} {c e it : X} {y : Str} {j : Nat} (h : CompX cx ε elt iter tg ifs scope xs is bind it c e)
  (hy : ε.vars.lookup y = some j) (hf : ε.kinds.lookup y ≠ some .free) (hs : ∀ env : Env,env.scope.kind = .function → env.scope.names = ε.kinds → swapsWith (.ListComp elt [⟨tg,iter,ifs,0⟩] scope pos) (some (.Name y py)) spos.line env = pure true)
  {n cf A env F s ρ ad m cm} (H : HereS cx ε n cf A env F s ρ ad m cm) {items l : List D} (hit : evI cf it ρ = some items) (hl : compGo (turnC cf is bind c e ρ) items = some l)
  (own : Bool) (hna : own = true → noApp j ρ = true ∧ dSlot j = false) {Q : Flow → Shared → Prop} {E : VP} (hQ : PostS cx ε env F s ρ ad (ρ.set j (if own then .own l else .val (.list l))) .next Q) :
  wpAny (model cx.prog cx.w) A (exec (.Assign [.Name y py] (.ListComp elt [⟨tg,iter,ifs,0⟩] scope pos) spos) env) Q E s := by
 rw [exec_Assign_Name_used _ _ _ _ (hs env H.frm.en.kind H.frm.en.names)]
 refine wb (wpAny_standAt (wb ?_))
 show wpAny _ A (do let _ ← comprehension (.ListComp elt [⟨tg,iter,ifs,0⟩] scope pos) scope env _ (newList []) false (eval iter env) (some (assign (.Name y py) env))) _ _ s
 refine wb (zgi (use := some (assign (.Name y py) env)) h.hT h.hb h.hi h.ok h.hc h.he h.hs H.here hit hl fun Da C F' s' m' st q hn frC nC hne => ?_)
 show wpAny _ A (assign (.Name y py) env (.ref Da)) _ _ _
 refine wpAny_assign_Name ?_
 have nm : ∀ {a},s.heap.get? a = none → ¬ Mut env ρ ad a := fun e hm => by
  obtain ⟨o,e'⟩ := H.frm.isSome hm
  rw [e] at e'; injection e'
 cases q with
 | @own _ vs k _ lo nf nx g z q =>
 have fin : ∀ {F'' : AP} {sl : Slot} {ad' : NAd} {s'' : Shared} {m'' cm'' : SV},sl = (if own then Slot.own l else .val (.list l)) → (∀ l',sl = .own l' → ad' j = Da) → (∀ i,i ≠ j → ad' i = ad i) → StepS cx env F s ρ ad F'' s'' (ρ.set j sl) ad' → Frm cx ε env F'' s'' (ρ.set j sl) ad' m'' cm'' → ¬ F'' C → s''.heap.Ns C m' →
   ∃ m,s''.heap.Ns C m ∧ ∀ h',Heap.SameBut C s''.heap h' → wpAny (model cx.prog cx.w) A (pure PUnit.unit) (fun _ s' => wpAny (model cx.prog cx.w) A (pure Flow.next) Q E s') E { s'' with heap := h' } := by
  intro F'' sl ad' s'' m'' cm'' hsl hDa had x f nF hn'
  refine ⟨m',hn',fun h' sb => wpAny_pure (wpAny_pure ?_)⟩
  have nM : ¬ Mut env (ρ.set j sl) ad' C := fun hm => by
   rcases hm with h | h | ⟨i,l',hi,rfl⟩
   ·exact nm frC (.inl h)
   ·exact nm frC (.inr (.inl h))
   ·rw [zaV] at hi
    by_cases e : i = j
    ·subst e
     rw [if_pos rfl] at hi
     split at hi
     ·exact hne (hDa l' hi)
     ·injection hi
    ·rw [if_neg e] at hi
     rw [had i e] at frC
     exact nm frC (.inr (.inr ⟨i,l',hi,rfl⟩))
  obtain ⟨x2,f2⟩ := x.kept H.ok H.wd f (wr := [C]) (fun b hb => by simp only [List.mem_cons,List.not_mem_nil,or_false] at hb; subst hb; exact ⟨frC,nF,nM⟩) (h' := h') s''.toks (fun a o hm e => (sb.2 a (by simpa using hm)).trans e)
  rw [hsl] at x2 f2
  exact hQ .next F'' _ ad' m'' cm'' x2 f2 .next
 cases own with
 | false =>
  have st2 := st.freeze H.ok H.wd lo g
  refine zcw H st2 hy hf (sl := .val (.list l)) (ad' := ad) (fun _ _ => rfl) (.inl rfl) (fun h' hk => .val (.list (.inr rfl) (hk Da _ (.inl (.inr rfl)) g) z (q.mono (fun _ h => .inl h) fun a o f e => hk a o (.inl (.inl f)) e))) (fun _ e => nomatch e) fun s'' m'' cm'' hk x f => ?_
  exact fin (sl := .val (.list l)) (by rw [if_neg (by decide)]) (fun _ e => nomatch e) (fun _ _ => rfl) x f (fun h => h.elim nC hne) (hn.at' fun o e => hk C o (nm frC) e)
 | true =>
  refine zcw H st hy hf (sl := .own l) (ad' := fun i => if i = j then Da else ad i) (fun i hi => if_neg hi) (.inr (zhs (hna rfl).1)) (fun h' hk => ?_) (fun l' _ => ?_) fun s'' m'' cm'' hk x f => ?_
  ·have : SlotRep cx F' h' (fun i => if i = j then Da else ad i) j (some (.ref ((fun i => if i = j then Da else ad i) j))) (.own l) := by
    refine .own (vs := vs) (n := k) ?_ ?_ ?_ z (q.mono (fun _ h => h) fun b o f e => hk b o (.inl f) e) (hna rfl).2 <;> simp only [if_true]
    ·exact nf
    ·exact nx
    ·exact hk Da _ (.inr (nm lo)) g
   simpa using this
  ·simp only [if_true]
   exact ⟨lo,nf,nx,_,g⟩
  ·exact fin (sl := .own l) (ad' := fun i => if i = j then Da else ad i) (by rw [if_pos rfl]) (fun _ _ => if_pos rfl) (fun i hi => if_neg hi) x f nC (hn.at' fun o e => hk C o (nm frC) e)
theorem ev1_own {cf : CfT} {x : X} {ρ : List Slot} {d : D} (h : ev1 cf x ρ = some d) {P : List D → Prop} (hp : ∀ r,ev cf x ρ = some [r] → ∃ l,r = .own l ∧ P l) : ∃ l,d = .list l ∧ P l := by
 obtain ⟨r,e1,e2⟩ := zfC h
 obtain ⟨l,rfl,p⟩ := hp r e1
 (injection e2 with e2; subst e2)
 exact ⟨l,rfl,p⟩
theorem zba {elt iter tg : Expr} {ifs : List Expr} {scope : Scope} {pos spos py : Pos} {x y : Str} {i j : Nat} {it c e : X} (h : CompX cx ε elt iter tg ifs scope [x] [i] one1 it c e)
  (hy : ε.vars.lookup y = some j) (hf : ε.kinds.lookup y ≠ some .free) (hs : ∀ env : Env,env.scope.kind = .function → env.scope.names = ε.kinds → swapsWith (.ListComp elt [⟨tg,iter,ifs,0⟩] scope pos) (some (.Name y py)) spos.line env = pure true) :
  SoundS cx ε (.Assign [.Name y py] (.ListComp elt [⟨tg,iter,ifs,0⟩] scope pos) spos) (.assign j (.comp i it c e)) := by
 intro n cf A env F s ρ ad m cm H ρ' o he Q E hQ
 replace he := (zcD cf).symm.trans he
 obtain ⟨d,hd,e'⟩ := Option.map_eq_some_iff.mp he
 (injection e' with e' z; subst e' z)
 obtain ⟨l,rfl,items,e1,e2⟩ := ev1_own (P := fun l => ∃ items,evI cf it ρ = some items ∧ compGo (turnC cf [i] one1 c e ρ) items = some l) hd fun r hr => by
  obtain ⟨items,l,e1,e2,e3⟩ := zg9 hr
  exact ⟨l,e3,items,e1,e2⟩
 exact zj3 h hy hf hs H e1 e2 false (fun e => nomatch e) (by rw [if_neg (by decide)]; exact hQ)
end
theorem zgq {kindOf : Str → Option NameKind} {x : Str} : ∀ {ps : List Str} {vs : List Value} {m : SV},x ∉ ps → bindL kindOf (ps.zip vs) m x = m x
 | [],_,_,_ => rfl
 | _ :: _,[],_,_ => rfl
 | n :: ps,v :: vs,m,h => by
  rw [List.zip_cons_cons]
  unfold bindL
  rw [zgq fun h' => h (List.mem_cons_of_mem _ h')]
  split
  ·exact if_neg fun (e : x = n) => h (by rw [e]; exact List.mem_cons_self)
  ·rfl
theorem zhI {kindOf : Str → Option NameKind} {x : Str} {v : Value} (hk : kindOf x = some .local) : ∀ {ps : List Str} {vs : List Value} {m : SV} {k : Nat},ps.Nodup → ps[k]? = some x → vs[k]? = some v → bindL kindOf (ps.zip vs) m x = some v
 | [],_,_,_,_,h,_ => nomatch h
 | _ :: _,[],_,_,_,_,h => nomatch h
 | n :: ps,v' :: vs,m,k,hn,h1,h2 => by
  obtain ⟨n1,hn'⟩ := List.nodup_cons.mp hn
  rw [List.zip_cons_cons]
  unfold bindL
  cases k with
  | zero =>
   simp only [List.getElem?_cons_zero,Option.some.injEq] at h1 h2
   subst h1; subst h2
   rw [zgq n1,if_pos hk]
   exact if_pos rfl
  | succ k =>
   simp only [List.getElem?_cons_succ] at h1 h2
   exact zhI hk hn' h1 h2
theorem zgr {kindOf : Str → Option NameKind} {x : Str} : ∀ {ps : List Str} {vs : List Value} {m : SV},x ∉ ps → bindC kindOf (ps.zip vs) m x = m x
 | [],_,_,_ => rfl
 | _ :: _,[],_,_ => rfl
 | n :: ps,v :: vs,m,h => by
  rw [List.zip_cons_cons]
  unfold bindC
  rw [zgr fun h' => h (List.mem_cons_of_mem _ h')]
  split
  ·rfl
  ·exact if_neg fun (e : x = n) => h (by rw [e]; exact List.mem_cons_self)
theorem zhJ {kindOf : Str → Option NameKind} {x : Str} {v : Value} (hk : kindOf x ≠ some .local) : ∀ {ps : List Str} {vs : List Value} {m : SV} {k : Nat},ps.Nodup → ps[k]? = some x → vs[k]? = some v → bindC kindOf (ps.zip vs) m x = some v
 | [],_,_,_,_,h,_ => nomatch h
 | _ :: _,[],_,_,_,_,h => nomatch h
 | n :: ps,v' :: vs,m,k,hn,h1,h2 => by
  obtain ⟨n1,hn'⟩ := List.nodup_cons.mp hn
  rw [List.zip_cons_cons]
  unfold bindC
  cases k with
  | zero =>
   simp only [List.getElem?_cons_zero,Option.some.injEq] at h1 h2
   subst h1; subst h2
   rw [zgr n1,if_neg hk]
   exact if_pos rfl
  | succ k =>
   simp only [List.getElem?_cons_succ] at h1 h2
   exact zhJ hk hn' h1 h2
theorem zbJ {x : Str} : ∀ {names : List (Str × NameKind)} {n : Nat} {acc : List (Str × Addr)},(acc.lookup x).isSome ∨ (x,NameKind.cell) ∈ names → ((cellsFrom n names acc).lookup x).isSome
 | [],n,acc,h => by
  unfold cellsFrom
  rcases h with h | h
  ·exact h
  ·cases h
 | (y,k) :: r,n,acc,h => by
  unfold cellsFrom
  split
  ·rename_i hk
   refine zbJ ?_
   rw [List.lookup_cons]
   cases hx : x == y with
   | true => exact .inl rfl
   | false =>
    rcases h with h | h
    ·exact .inl h
    ·rcases List.mem_cons.mp h with e | h
     ·(injection e with e z; subst e z); simp at hx
     ·exact .inr h
  ·rename_i hk
   refine zbJ (h.imp id fun h => ?_)
   rcases List.mem_cons.mp h with e | h
   ·(injection e with e z; subst e z); simp at hk
   ·exact h
noncomputable def boundTo (fn : Fn) (args : List D) : Option (List D) :=
 if fn.va then (if fn.np ≤ args.length ∧ args.length ≤ lim then some (args.take fn.np ++ [.tup (args.drop fn.np)]) else none)
 else if args.length = fn.np then some args else none
noncomputable def BindOK (cx : XCx) (fd : FuncData) (fn : Fn) (ps : List Str) : Prop :=
 ∀ A F s vs args ds,CxOk cx → Wd cx F s → RepL cx.T F s.heap vs args → boundTo fn args = some ds → ∀ (Q : List (Str × Value) → Shared → Prop) (E : VP),
  (∀ F' s' vs',Step cx F s F' s' → RepL cx.T F' s'.heap vs' ds → Q (ps.zip vs') s') → wpAny (model cx.prog cx.w) A (bindArgs fd ⟨vs,[]⟩) Q E s
set_option genInjectivity false in
structure FnIs (cx : XCx) (ε : Sc) (i : Nat) (fn : Fn) (fd : FuncData) (body : List Stmt) (ps : List Str) : Prop where
 obj : ∃ o,cx.h0.get? (cx.fa i) = some o ∧ o.data = .func fd
 nx : ¬ cx.X (cx.fa i)
 code : ∃ c,fd.code = .ref c ∧ ¬ cx.X c ∧ cx.h0.CodeRec (.ref c) fd.qualname
 body : fd.body = .stmts body
 codeAt : ∀ c q,ε.code = some (c,q) → fd.code = .ref c ∧ fd.qualname ++ ".<locals>." = q
 clo : fd.closure = []
 glob : fd.globals = mainGlobals
 blt : fd.builtins = builtinsNs
 co : fd.scope.isCoroutine = false
 gen : fd.scope.isGenerator = false
 kind : fd.scope.kind = .function
 names : fd.scope.names = ε.kinds
 bind : BindOK cx fd fn ps
 len : ∀ args ds,boundTo fn args = some ds → ds.length = ps.length
 nodup : ps.Nodup
 pv : ∀ (k : Nat) x,ps[k]? = some x → ε.vars.lookup x = some k
 vk : ∀ x j,ε.vars.lookup x = some j → ε.kinds.lookup x = some .local ∨ ε.kinds.lookup x = some .cell
 sc : ScOK ε
 top : ε.top = false
theorem zhb {fn : Fn} {args : List D} {ρ : List Slot} (h : bindD fn args = some ρ) : ∃ ds k,boundTo fn args = some ds ∧ ρ = ds.map .val ++ List.replicate k .unset := by
 unfold bindD at h
 unfold boundTo
 split at h
 ·split at h <;> (first | (injection h; done) | (injection h with h; subst h))
  rename_i h1 h2
  rw [if_pos h1,if_pos h2]
  exact ⟨_,fn.ns - fn.np - 1,rfl,by simp⟩
 ·split at h <;> (first | (injection h; done) | (injection h with h; subst h))
  rename_i h1 h2
  rw [if_neg h1,if_pos h2]
  exact ⟨_,_,rfl,rfl⟩
theorem zdy {ds : List D} {k j : Nat} : slotAt (ds.map .val ++ List.replicate k .unset) j = (match ds[j]? with | some d => .val d | none => .unset) := by
 unfold slotAt
 rw [List.getD_eq_getElem?_getD,List.getElem?_append]
 split
 ·rename_i h
  rw [List.getElem?_map]
  rw [List.length_map] at h
  rw [List.getElem?_eq_getElem h]
  rfl
 ·rename_i h
  rw [List.length_map] at h
  rw [List.getElem?_eq_none (Nat.le_of_not_lt h),List.getElem?_replicate]
  split <;> rfl
section
variable {cx : XCx}
theorem bud_dp {d n : Nat} (h : d + (n + 1) < 890) : d + 1 + n < 890 := by omega
theorem bud_un {u n : Nat} (h : u + 10 * (n + 1) + 200 < 9900) : u + 3 + 10 * n + 200 < 9900 := by omega
theorem bud_sl {u n : Nat} (h : u + 10 * (n + 1) + 200 < 9900) : u + 3 + 10 * n + 207 < 9900 := by omega
set_option genInjectivity false in
structure OpenC (cx : XCx) (ε : Sc) (i n : Nat) (A : Around) (env : Env) (ρ : List Slot) (F F₁ : AP) (s s₁ s₂ : Shared) (A' : Around) (Rs : Result → Shared → Prop) (Q : Flow → Shared → Prop) (E : VP) : Prop where
 bud : BudE n A'
 fr : A'.frames = A.frames.map (env :: ·)
 wd : Wd cx F₁ s₂
 st : Step cx F s F₁ s₁
 keep : ∀ a o,s₁.heap.get? a = some o → s₂.heap.get? a = some o
 os : s₂.os = s₁.os
 fresh : ∀ a,Mut env ρ (fun _ => 0) a → s₁.heap.get? a = none
 ret : ∀ v s',Rs (.ok (.ret v)) s' → Q (.ret v) s'
 exc : ∀ e s',wpAny (model cx.prog cx.w) A' (leaving env e) (fun _ s'' => Rs (.error e) s'') (fun e' s'' => Rs (.error e') s'') s' → E e s'
 nxt : ∀ s',Rs (.ok (.ret .none)) s' → Q .next s'
theorem zgl {ε : Sc} {i : Nat} {fn : Fn} {fd : FuncData} {body : List Stmt} {ps : List Str} (X : FnIs cx ε i fn fd body ps) (ok : CxOk cx) {n : Nat}
  {args : List D} {ρ : List Slot} (hb : bindD fn args = some ρ)
  {A : Around} {F : AP} {s : Shared} {vs : List Value} (bud : Bud (n + 1) A) (w : Wd cx F s) (q : RepL cx.T F s.heap vs args) {Rs : Result → Shared → Prop}
  (k : ∀ (A' : Around) (env : Env) (F₁ : AP) (s₁ s₂ : Shared) (m cm : SV) (Q : Flow → Shared → Prop) (E : VP),OpenC cx ε i n A env ρ F F₁ s s₁ s₂ A' Rs Q E → Frm cx ε env F₁ s₂ ρ (fun _ => 0) m cm →
   wpAny (model cx.prog cx.w) A' (execs body env) Q E s₂) : codeAny (model cx.prog cx.w) A (.call (.ref (cx.fa i)) ⟨vs,[]⟩) Rs s := by
 obtain ⟨ob,g,hfd⟩ := X.obj
 obtain ⟨c,hcode,ncx,hcd⟩ := X.code
 obtain ⟨ds,kk,hbd,rfl⟩ := zhb hb
 have hroom : A.depth < recursionLimit := Nat.lt_of_le_of_lt (Nat.le_add_right _ _) (Nat.lt_trans bud.dp (by decide))
 refine codeAny_call_function hroom (w.base _ _ g X.nx) hfd X.co X.gen X.body (by rw [hcode]; exact hcd.at fun o e => w.base _ o e ncx) ?_
 refine X.bind A.in1 F s vs args ds ok w q hbd _ _ fun F₁ s₁ vs' st₁ q₁ => ?_
 rw [X.clo]
 have hlen : ds.length = ps.length := X.len _ _ hbd
 have hvl : vs'.length = ps.length := q₁.length.trans hlen
 have kindOf : ∀ x,(callEnvC fd s₁.heap.objs.size (cx.fa i)).kindOf x = ε.kinds.lookup x := fun x => by show fd.scope.names.lookup x = _; rw [X.names]
 have inps : ∀ x ∈ ps, ∃ k,ps[k]? = some x := fun x hx => by
  obtain ⟨k,hk,e⟩ := List.mem_iff_getElem.mp hx
  exact ⟨k,by rw [List.getElem?_eq_getElem hk,e]⟩
 have hkind : ∀ x ∈ ps.zip vs',fd.scope.names.lookup x.1 = some .local ∨ (fd.scope.names.lookup x.1 = some .cell ∧ ((cellsFrom (s₁.heap.objs.size + 1) fd.scope.names []).lookup x.1).isSome = true) := by
  intro x hx
  obtain ⟨k,hk⟩ := inps x.1 (List.of_mem_zip hx).1
  rw [X.names]
  rcases X.vk x.1 k (X.pv k x.1 hk) with h | h
  ·exact .inl h
  ·exact .inr ⟨h,zbJ (.inr (zbg h))⟩
 refine wpAny_newFunctionEnv_cells X.kind hkind fun env hen s₂ ic => ?_
 have hen' : env = callEnvC fd s₁.heap.objs.size (cx.fa i) := hen
 subst hen'
 obtain ⟨h₂,tk₂,rfl⟩ := ic.toInCall.same
 have keep₂ := ic.toInCall.keep
 have st₂ : Step cx F₁ s₁ F₁ { s₁ with heap := h₂,toks := tk₂ } := Step.grown ok st₁.wd tk₂ keep₂
 have w₂ := st₂.wd
 refine ⟨w₂.lim ok,codeAny_func ?_⟩
 let E₀ : Env := callEnvC fd s₁.heap.objs.size (cx.fa i)
 let m₀ : Str → Option Value := bindL E₀.kindOf (ps.zip vs') fun _ => none
 let cm₀ : Str → Option Value := bindC E₀.kindOf (ps.zip vs') fun _ => none
 have frL : s₁.heap.get? s₁.heap.objs.size = none := zaz _
 have frC : ∀ n c,E₀.cells.lookup n = some c → s₁.heap.get? c = none ∧ c ≠ s₁.heap.objs.size := fun n c hc => by
  have hlt : s₁.heap.objs.size < c := ic.above n c (mem_of_lookup hc)
  refine ⟨?_,Nat.ne_of_gt hlt⟩
  cases e : s₁.heap.get? c with
  | none => rfl
  | some o => exact absurd (Heap.lt_size e) (Nat.not_lt.mpr (Nat.le_of_lt hlt))
 have noOwn : ∀ j l,slotAt (ds.map Slot.val ++ List.replicate kk .unset) j ≠ .own l := fun j l e => by
  rw [zdy] at e
  split at e <;> injection e
 have fresh₀ : ∀ a,Mut E₀ (ds.map Slot.val ++ List.replicate kk .unset) (fun _ => 0) a → s₁.heap.get? a = none := fun a h => by
  rcases h with rfl | ⟨n,hn⟩ | ⟨j,l,hj,_⟩
  ·exact frL
  ·exact (frC n a hn).1
  ·exact absurd hj (noOwn j l)
 have slots : ∀ x j,ε.vars.lookup x = some j → (ε.kinds.lookup x = some .local ∧ SlotRep cx F₁ h₂ (fun _ => 0) j (m₀ x) (slotAt (ds.map Slot.val ++ List.replicate kk .unset) j)) ∨
   ((ε.kinds.lookup x = some .cell ∨ ε.kinds.lookup x = some .free) ∧ (∃ c,E₀.cells.lookup x = some c) ∧ SlotRep cx F₁ h₂ (fun _ => 0) j (cm₀ x) (slotAt (ds.map Slot.val ++ List.replicate kk .unset) j)) := by
  intro x j hx
  have look : ∀ dj,ds[j]? = some dj → ps[j]? = some x ∧ ∃ v,vs'[j]? = some v ∧ Rep cx.T F₁ h₂ v dj := fun dj hj => by
   obtain ⟨v,hv,r⟩ := q₁.get hj
   have hlt : j < ps.length := by rw [← hlen]; exact (List.getElem?_eq_some_iff.mp hj).1
   have hp : ps[j]? = some ps[j] := List.getElem?_eq_getElem hlt
   have := X.sc.inj x ps[j] j hx (X.pv j _ hp)
   exact ⟨by rw [hp,this],v,hv,st₂.rep st₁.wd r⟩
  rw [zdy]
  rcases X.vk x j hx with hk | hk
  ·left
   refine ⟨hk, ?_⟩
   split
   ·rename_i dj hj
    obtain ⟨hp,v,hv,r⟩ := look dj hj
    have : m₀ x = some v := zhI (by rw [kindOf]; exact hk) X.nodup hp hv
    rw [this]
    exact .val r
   ·exact .unset
  ·right
   refine ⟨.inl hk, ?_, ?_⟩
   ·refine Option.isSome_iff_exists.mp (zbJ (.inr ?_))
    rw [X.names]
    exact zbg hk
   ·split
    ·rename_i dj hj
     obtain ⟨hp,v,hv,r⟩ := look dj hj
     have : cm₀ x = some v := zhJ (by rw [kindOf,hk]; intro e; (injection e with e; injection e)) X.nodup hp hv
     rw [this]
     exact .val r
    ·exact .unset
 have fr : Frm cx ε E₀ F₁ { s₁ with heap := h₂,toks := tk₂ } (ds.map Slot.val ++ List.replicate kk .unset) (fun _ => 0) m₀ cm₀ := by
  refine ⟨⟨X.kind,X.names,X.glob,X.blt,X.codeAt,st₁.wd.newNotX frL,fun n c hc => st₁.wd.newNotX (frC n c hc).1,ic.toInCall.ns,ic.cell,slots⟩,st₁.wd.newNotF frL,fun n c hc => ⟨st₁.wd.newNotF (frC n c hc).1,(frC n c hc).2⟩,fun n n' c h h' => name_of_addr ic.apart (mem_of_lookup h) (mem_of_lookup h'),fun j _ l _ h => absurd h (noOwn j l),fun j l h => absurd h (noOwn j l)⟩
 have budE : BudE n (A.deeper E₀) := by
  obtain ⟨l,hl⟩ := bud.fs
  refine ⟨⟨bud.hd,bud_dp bud.dp,bud_un bud.un,⟨_,by show A.frames.map _ = _; rw [hl]; rfl⟩⟩,bud_sl bud.un,E₀,l,by show A.frames.map _ = _; rw [hl]; rfl,X.gen,X.co,X.blt,X.glob⟩
 exact k (A.deeper E₀) E₀ F₁ s₁ _ m₀ cm₀ _ _ ⟨budE,rfl,w₂,st₁,keep₂,rfl,fresh₀,fun _ _ h => h,fun _ _ h => h,fun _ h => h⟩ fr
theorem zj8 {ε : Sc} {i : Nat} {fn : Fn} {fd : FuncData} {body : List Stmt} {ps : List Str} (X : FnIs cx ε i fn fd body ps) (hs : SoundSs cx ε body fn.body) (ok : CxOk cx) {n : Nat} {cf : CfT} (hc : CallOK cx n cf)
  {args : List D} {ρ ρ' : List Slot} {o : Out} {d : D} (hb : bindD fn args = some ρ) (he : ex cf fn.body ρ = some (ρ',o)) (hd : o = .ret d ∨ (o = .next ∧ d = .none))
  {A : Around} {F : AP} {s : Shared} {vs : List Value} (bud : Bud (n + 1) A) (w : Wd cx F s) (q : RepL cx.T F s.heap vs args) {Rs : Result → Shared → Prop}
  (hR : ∀ v F' s',Step cx F s F' s' → Rep cx.T F' s'.heap v d → Rs (.ok (.ret v)) s') : codeAny (model cx.prog cx.w) A (.call (.ref (cx.fa i)) ⟨vs,[]⟩) Rs s := by
 refine zgl X ok hb bud w q fun A' env F₁ s₁ s₂ m cm Q E O fr => ?_
 refine hs n cf A' env F₁ s₂ ρ _ m cm ⟨ok,X.sc,hc,O.bud,O.wd,fr,fun h => nomatch X.top.symm.trans h⟩ ρ' o he _ _ fun f F' s' ad' m' cm' x fr' out => ?_
 have stF : Step cx F s F' s' := by
  refine O.st.trans ⟨fun a h => x.sub a h,fun a h => ?_,fun a o e nx => x.keep a o (O.keep a o e) nx fun hm => ?_,x.os.trans O.os,x.wd⟩
  ·rcases x.new a h with q | q | q
   ·exact .inl q
   ·right
    cases e : s₁.heap.get? a with
    | none => rfl
    | some o => rw [O.keep a o e] at q; injection q
   ·exact .inr (O.fresh a q)
  ·have := O.fresh a hm
   rw [e] at this; injection this
 rcases hd with rfl | ⟨rfl,rfl⟩
 ·cases out with
  | ret r => exact O.ret _ _ (hR _ F' s' stF r)
 ·cases out
  exact O.nxt _ (hR _ F' s' stF .none)
theorem zfF (ok : CxOk cx) {fns : Nat → Option Fn} (h : ∀ i fn,fns i = some fn → ∃ ε fd body ps,FnIs cx ε i fn fd body ps ∧ SoundSs cx ε body fn.body) (hk : ∀ n,cx.cok (callF fns n) := by intro _; exact trivial) : ∀ n,CallOK cx n (callF fns n)
 | 0 => ⟨hk 0,fun f args d e => by unfold callF at e; injection e⟩
 | n + 1 => ⟨hk (n + 1),fun f args d e => by
  unfold callF at e
  split at e
  ·injection e
  ·rename_i fn hf
   obtain ⟨ε,fd,body,ps,X,hs⟩ := h f fn hf
   obtain ⟨o,g,hfd⟩ := X.obj
   refine ⟨⟨o,fd,g,hfd,X.nx⟩,fun A F s vs bud w q Rs hR => ?_⟩
   split at e
   ·injection e
   ·rename_i ρ hb
    split at e
    ·rename_i ρ' d' he
     cases e
     exact zj8 X hs ok (zfF ok h hk n) hb he (.inl rfl) bud w q hR
    ·rename_i ρ' he
     (injection e with e; subst e)
     exact zj8 X hs ok (zfF ok h hk n) hb he (.inr ⟨rfl,rfl⟩) bud w q hR
    ·injection e⟩
end
set_option genInjectivity false in
structure TabG (cx : XCx) where
 d : Addr
 f : Int → Option Value
 nx : ¬ cx.X d
 hm : cx.h0.MapOf (intKind cx.prog cx.w) d f
 sys : (d == sysModules) = false
 yes : ∀ c : Nat,c < 128 → special.contains c = true → ∃ u,f (c : Int) = some (.str ⟨#[92,c]⟩ u)
 no : ∀ c : Nat,c < 128 → special.contains c = false → f (c : Int) = none
section
variable {cx : XCx} {ε : Sc}
theorem zd4 (G : TabG cx) {o : Expr} {y : X} {x : Str} {p apos pos : Pos} (hb : plainBase o = true) (hl : (apos.endLine == pos.line) = true) (h : Sound cx ε o y) (hk : ε.kinds.lookup x = some .globalImplicit) (hv : cx.mg x = some (.ref G.d)) (hd : (x == ("__debug__" : Str)) = false) :
  Sound cx ε (.Call (.Attribute o "translate" apos) [.Name x p] [] pos) (.op .translate (.cons y .nil)) := by
 refine Sound.ofE ?_ fun _ => rfl
 intro n cf A env F s ρ ad m cm H res he Q E hQ
 obtain ⟨rs,e1,e2⟩ := ev_op he
 obtain ⟨r0,rs',e3,e4,rfl⟩ := zay e1
 obtain rfl := zbU e4
 refine zb8 hb hl (by simp) rfl ?_
 refine h.ev n cf A env F s ρ ad m cm H r0 e3 _ _ fun v F' s' st q => ?_
 simp only [List.map_cons,List.map_nil] at e2; delta opF at e2; dsimp only at e2
 unfold opTranslate at e2
 split at e2
 ·rename_i c ec
  split at e2 <;> (first | (injection e2; done) | (injection e2 with e2; subst e2))
  rename_i hc
  have qb := q.brep
  have ec' : r0.ds = .str [c] := by
   have := ec
   simpa using this
  rw [ec'] at qb
  obtain ⟨t,rfl,pp,z⟩ := qb.str_inv
  have noref : ∀ a,Value.str ⟨[c].toArray⟩ t = .ref a → ∃ o,s'.heap.get? a = some o ∧ o.dict = none := fun _ e => nomatch e
  with_reducible refine GM.of (.str ⟨[c].toArray⟩ t) (typeIs_str _ _ _) PySem.F.slot_str_translate PySem.F.type_str_translate noref ?_
  have H1 := H.step st
  have hst : starred (.Name x p) = false := rfl
  rw [zao hst,zav]
  refine Calls.callWith_builtin rfl (Calls.evalArgs_plain (Calls.spliced_cons (zbO H1 hk hv hd (Calls.spliced_nil ?_))))
  show wpAny _ _ (call (.builtin "str.translate") [.str ⟨#[c]⟩ t,.ref G.d]) _ _ s'
  have hm : s'.heap.MapOf (intKind cx.prog cx.w) G.d G.f := let ⟨o,es,ep,g,r⟩ := G.hm; ⟨o,es,ep,st.wd.base _ _ g G.nx,r⟩
  cases hsp : special.contains c with
  | true =>
   obtain ⟨u,hu⟩ := G.yes c hc hsp
   refine call_meetsIn PySem.F.slot_str_translate (typeIs_str _ _ _) PySem.F.entry_str_translate (PySem.F.args_str_translate_2 _ _) (ze8 (f := G.f) (x := c) (u := u) hc) ⟨⟨hm,hu⟩,fun k k' => ?_⟩
   rw [if_pos hsp] at hQ
   refine hQ _ F' _ (st.toks k') (.val (.str (l := [92,c]) k (fun c' h => ?_) (by simp [lim])))
   simp only [List.mem_cons,List.not_mem_nil,or_false] at h
   rcases h with rfl | rfl <;> omega
  | false =>
   refine call_meetsIn PySem.F.slot_str_translate (typeIs_str _ _ _) PySem.F.entry_str_translate (PySem.F.args_str_translate_2 _ _) (zey (f := G.f) hc G.sys) ⟨⟨hm,G.no c hc hsp,H.bud.hd⟩,fun h' k k' hk' => ?_⟩
   rw [if_neg (by rw [hsp]; decide)] at hQ
   refine hQ _ F' _ (st.trans (Step.grown H.ok st.wd k' hk')) (.val (.str (l := [c]) k (fun c' h => ?_) (by simp [lim])))
   simp only [List.mem_cons,List.not_mem_nil,or_false] at h
   subst h; omega
 ·injection e2
theorem ziL {a b : PySem.Str} {e : Expr} {y : X} {k k' : Nat} {p p' p'' pos : Pos} {la lb : List Nat} (h : Sound cx ε e y) (ha : constD (.str a) = some (.str la)) (hb : constD (.str b) = some (.str lb)) :
  Sound cx ε (.JoinedStr [.Constant (.str a) k p,.FormattedValue e (-1) none p',.Constant (.str b) k' p''] pos) (.op .fmt (.cons (.const (.str la)) (.cons y (.cons (.const (.str lb)) .nil)))) := by
 refine Sound.ofE ?_ fun _ => rfl
 intro n cf A env F s ρ ad m cm H res he Q E hQ
 obtain ⟨rs,e1,e2⟩ := ev_op he
 obtain ⟨r0,rs0,e3,e4,rfl⟩ := zay e1
 obtain ⟨r1,rs1,e5,e6,rfl⟩ := zay e4
 obtain ⟨r2,rs2,e7,e8,rfl⟩ := zay e6
 obtain rfl := zbU e8
 have c0 : r0 = .val (.str la) := by replace e3 := (zaF _).symm.trans e3; (injection e3 with e3; injection e3 with e3 z; clear z; subst e3); rfl
 have c2 : r2 = .val (.str lb) := by replace e7 := (zaF _).symm.trans e7; (injection e7 with e7; injection e7 with e7 z; clear z; subst e7); rfl
 subst c0; subst c2
 obtain ⟨l2,hr1,e2⟩ := Option.bind_eq_some_iff.mp (show (strO r1.ds).bind (fun b => strD (la ++ b ++ lb)) = some res from e2)
 replace hr1 := zbF hr1
 obtain ⟨hz,rfl⟩ := zce (show (if (la ++ l2 ++ lb).length ≤ lim then some (R.val (.str (la ++ l2 ++ lb))) else none) = some res from e2)
 ·skip
  refine wpAny_JoinedStr ?_
  show wpAny _ _ (eval (.Constant (.str a) k p) env) _ E s
  refine (zab ha).ev n cf A env F s ρ ad m cm H _ e3 _ _ fun v F1 s1 st1 q1 => ?_
  have q1 := q1.brep
  obtain ⟨t1,rfl,p1,z1⟩ := BRep.str_inv (l := la) q1
  have H1 := H.step st1
  refine ⟨_,_,rfl, ?_, ?_⟩
  ·show (Str.empty ++ PySem.Str.mk la.toArray).length ≤ sizeLine
   have : (Str.empty ++ PySem.Str.mk la.toArray).length = la.length := by
    rw [strLen_append]; show 0 + la.toArray.size = _; simp
   rw [this]; exact zaB z1
  show wpAny _ _ (eval (.FormattedValue e (-1) none p') env) _ E s1
  refine wpAny_FormattedValue_plain ?_
  refine h.ev n cf A env F1 s1 ρ ad m cm H1 r1 e5 _ _ fun v F2 s2 st2 q2 => ?_
  have q2 := q2.brep
  rw [hr1] at q2
  obtain ⟨t2,rfl,p2,z2⟩ := q2.str_inv
  have len1 : (Str.empty ++ PySem.Str.mk la.toArray).length = la.length := by
   rw [strLen_append]; show 0 + la.toArray.size = _; simp
  have len2 : (Str.empty ++ PySem.Str.mk la.toArray ++ PySem.Str.mk l2.toArray).length = la.length + l2.length := by
   rw [strLen_append,len1]; show _ + l2.toArray.size = _; simp
  have hz' : la.length + l2.length + lb.length ≤ lim := by rw [List.length_append,List.length_append] at hz; exact hz
  have rest : ∀ t2' k2, ∃ y t,(Value.str ⟨l2.toArray⟩ t2') = .str y t ∧ (Str.empty ++ PySem.Str.mk la.toArray ++ y).length ≤ sizeLine ∧ Joins (model cx.prog cx.w) A E (evalEach [.Constant (.str b) k' p''] env) (Str.empty ++ PySem.Str.mk la.toArray ++ y) (fun out s₁ => out.length ≤ sizeLine ∧ Q (.str out s₁.toks) { s₁ with toks := s₁.toks + 1 }) { s2 with toks := k2 } := by
   intro t2' k2
   refine ⟨_,_,rfl,by rw [len2]; exact zaB (by omega), ?_⟩
   show wpAny _ _ (eval (.Constant (.str b) k' p'') env) _ E _
   have H2 := (H1.step st2).step ((Step.refl (H1.step st2).wd).toks k2)
   refine (zab hb).ev n cf A env F2 _ ρ ad m cm H2 _ e7 _ _ fun v F3 s3 st3 q3 => ?_
   have q3 := q3.brep
   obtain ⟨t3,rfl,p3,z3⟩ := BRep.str_inv (l := lb) q3
   have len3 : (Str.empty ++ PySem.Str.mk la.toArray ++ PySem.Str.mk l2.toArray ++ PySem.Str.mk lb.toArray).length = la.length + l2.length + lb.length := by
    rw [strLen_append,len2]; show _ + lb.toArray.size = _; simp
   refine ⟨_,_,rfl,by rw [len3]; exact zaB hz', ?_⟩
   refine ⟨by rw [len3]; exact zaB hz', ?_⟩
   have e : (Str.empty ++ PySem.Str.mk la.toArray ++ PySem.Str.mk l2.toArray ++ PySem.Str.mk lb.toArray) = PySem.Str.mk (la ++ l2 ++ lb).toArray := by
    show PySem.Str.mk (#[] ++ la.toArray ++ l2.toArray ++ lb.toArray) = _
    simp
   rw [e]
   refine hQ _ F3 _ ((st1.trans ((st2.toks k2).trans st3)).toks _) (.val (.str _ (fun c hc => ?_) (by simpa [List.length_append] using hz)))
   rcases List.mem_append.mp hc with hc | hc
   ·rcases List.mem_append.mp hc with hc | hc
    ·exact p1 c hc
    ·exact p2 c hc
   ·exact p3 c hc
  refine wpAny_formatField_str (rest t2 s2.toks) (rest s2.toks (s2.toks + 1)) ?_
  show l2.toArray.size ≤ sizeLine
  rw [List.size_toArray]; exact zaB z2
end
end Mine
end
section MpZ2x
open PySem PySem.Builtin.Str
namespace Mine
open PySem.Builtin PySem.Builtin.Re
section
variable {prog : Program} {w : World} {A A₀ : Around} {E : VP} {s : Shared} {P C : Addr} {codes : Array Value} {a : Array Nat} {u : Tok}
theorem zlj : ∀ (ps : List (PySem.Str × Tok)),(∀ p ∈ ps,p.1.cps.size ≤ 1000) → (ps.map fun x => x.1.cps.size).sum ≤ ps.length * 1000
 | [],_ => Nat.le_refl _
 | p :: r,h => by
  have h1 := h p List.mem_cons_self
  have h2 := zlj r fun q hq => h q (List.mem_cons_of_mem _ hq)
  simp only [List.map_cons,List.sum_cons,List.length_cons]
  rw [Nat.succ_mul,Nat.add_comm]; exact Nat.add_le_add h2 h1
theorem zid {h : Heap} {a : Addr} {vs : Array Value} {n : Nat} (g : h.get? a = some (lobj vs n)) : h.IsList a vs := ⟨_,g,rfl,n,rfl⟩
theorem zjt {R : Result → Shared → Prop} (hp : PatAt s.heap P C codes) {repl : Value} {n done start : Nat} {must : Bool} {pc : Addr} {ps : List (PySem.Str × Tok)} {kk : Nat} (hl : s.heap.get? pc = some (lobj (strValues ps).toArray kk))
  (hf : ∃ k,k < 100 ∧ ((Sre.forSearch reCode a 1 start a.size must).runFor (4 * (k + 1))).outcome = some .failed) (hz : ps.length ≤ 1000) (ha : a.size ≤ 1000) (hps : ∀ p ∈ ps,p.1.cps.size ≤ 100)
  {res : PySem.Str} (hres : Txt.join Str.empty (ps.map (·.1) ++ (if done < a.size then [⟨a.extract done a.size⟩] else [])) = res)
  (h : ∀ h' tk t,Heap.SameBut pc s.heap h' → R (.ok (.ret (.str res t))) { s with heap := h',toks := tk }) :
  wpAny (model prog w) A (Builtin.«re.Pattern.sub.loop» ⟨[.ref P,.str ⟨a⟩ u,repl,rawInt 1,rawInt 0,rawInt n,rawInt done,rawInt start,.bool must,.ref pc,.bool false],[]⟩) (fun fin s' => match fin with | .done f => R (.ok f) s' | .again c' => c'.quiet = true ∧ codeAny (model prog w) A₀ c' R s') E s := by
 obtain ⟨k,hk,ho⟩ := hf
 unfold Builtin.«re.Pattern.sub.loop»
 refine wb (zhg hp ?_)
 show wpAny _ _ (reNextFound _ start must >>= _) _ _ _
 unfold reNextFound
 refine wb (zim k hk ho ?_)
 have jn : ∀ (ps' : List (PySem.Str × Tok)) (k' : Nat) (s' : Shared),s'.heap.get? pc = some (lobj (strValues ps').toArray k') → ps'.length ≤ 1001 → (∀ p ∈ ps',p.1.cps.size ≤ 1000) → Txt.join Str.empty (ps'.map (·.1)) = res → (∀ tk t,R (.ok (.ret (.str res t))) { s' with toks := tk }) →
   wpAny (model prog w) A (do
    let joiner ← reSlice a 0 0 0
    let text ← if ((← seqItems? (.ref pc)).getD #[]).isEmpty then pure joiner
     else call (.builtin (if (0 : Nat) == 0 then "str.join" else "bytes.join")) [joiner,.ref pc]
    if false then ret (← holding [text] do newTuple [text, ← mkInt (n : Int)]) else ret text) (fun fin s' => match fin with | .done f => R (.ok f) s' | .again c' => c'.quiet = true ∧ codeAny (model prog w) A₀ c' R s') E s' := by
  intro ps' k' s' g hz' hsz' hr hR
  have e0 : (PySem.Str.mk (a.extract 0 0)) = Str.empty := by simp [Str.empty]
  unfold reSlice
  simp only [beq_self_eq_true,if_true]
  rw [e0]
  refine wb (wpAny_mkStr ?_ (by decide))
  refine wb (wb (wpAny_load g (wpAny_pure ?_)))
  cases ps' with
  | nil =>
   have hr' : res = Str.empty := by rw [← hr]; rfl
   rw [hr'] at hR
   exact wpAny_pure (hR _ _)
  | cons p r =>
   rw [if_neg (by simp [strValues])]
   refine wb (SC.join (l := p :: r) (texts := (p :: r).map (·.1)) (zid g) rfl ?_ fun t' k2 => ?_)
   ·unfold JoinOk tooLong
    rw [zfv,Nat.zero_add]
    have hb := zlj (p :: r) hsz'
    have hs : ((List.map (fun x => x.1) (p :: r)).map fun x => x.length + Str.empty.length).sum = ((p :: r).map fun x => x.1.cps.size).sum := by
     rw [List.map_map]; rfl
    rw [hs]
    simp only [Bool.not_eq_true',decide_eq_false_iff_not]
    rw [sizeLine_eq]
    have : (p :: r).length * 1000 ≤ 1001 * 1000 := Nat.mul_le_mul_right _ hz'
    exact Nat.not_lt.mpr (Nat.le_trans hb (Nat.le_trans this (by decide)))
   ·rw [hr]
    exact wpAny_pure (hR _ _)
 by_cases hd : done < a.size
 ·rw [if_pos hd] at hres
  show wpAny _ _ (do
   if (done : Int).toNat < a.size then updateSeq pc (·.push (← reSlice a 0 (done : Int).toNat a.size))
   let joiner ← reSlice a 0 0 0
   let text ← if ((← seqItems? (.ref pc)).getD #[]).isEmpty then pure joiner
    else call (.builtin (if (0 : Nat) == 0 then "str.join" else "bytes.join")) [joiner,.ref pc]
   if false then ret (← holding [text] do newTuple [text, ← mkInt (n : Int)]) else ret text) _ _ _
  rw [if_pos (by simpa using hd)]
  have e1 : (done : Int).toNat = done := Int.toNat_natCast done
  rw [e1]
  unfold reSlice
  simp only [beq_self_eq_true,if_true]
  have hsz : (PySem.Str.mk (a.extract done a.size)).cps.size ≤ 1000 := by show (a.extract done a.size).size ≤ 1000; rw [Array.size_extract]; exact Nat.le_trans (Nat.sub_le _ _) (Nat.le_trans (Nat.min_le_left _ _) ha)
  refine wb (wpAny_mkStr ?_ (by show (a.extract done a.size).size ≤ _; have := hsz; rw [sizeLine_eq]; exact Nat.le_trans hsz (by decide)))
  have hlp : (strValues ps).toArray.size ≤ sizeLine := by rw [List.size_toArray]; unfold strValues; rw [List.length_map,sizeLine_eq]; exact Nat.le_trans hz (by decide)
  refine wb (wpAny_updateSeq (o := lobj (strValues ps).toArray kk) hl rfl ?_ hlp (by rw [Array.size_push]; omega))
  have e2 : (strValues ps).toArray.push (.str ⟨a.extract done a.size⟩ s.toks) = (strValues (ps ++ [(⟨a.extract done a.size⟩,s.toks)])).toArray := by
   unfold strValues; simp
  have g' := IsL.update (n := kk) (items := (strValues ps).toArray) (show IsL s.heap pc (strValues ps).toArray kk from hl) fun x => x.push (.str ⟨a.extract done a.size⟩ s.toks)
  simp only [e2] at g'
  have := jn (ps ++ [(⟨a.extract done a.size⟩,s.toks)]) _ { s with heap := s.heap.update pc (Obj.mapSeq fun x => x.push (.str ⟨a.extract done a.size⟩ s.toks)),toks := s.toks + 1 } g' (by rw [List.length_append]; exact Nat.succ_le_succ hz) (fun p hp => ?_) (by rw [List.map_append]; exact hres) (fun tk t => h _ _ _ (Heap.SameBut.update ..))
  ·unfold reSlice at this
   exact this
  ·rcases List.mem_append.mp hp with hp | hp
   ·exact Nat.le_trans (hps p hp) (by decide)
   ·simp only [List.mem_cons,List.not_mem_nil,or_false] at hp
    subst hp
    exact hsz
 ·rw [if_neg hd,List.append_nil] at hres
  show wpAny _ _ (do
   if (done : Int).toNat < a.size then updateSeq pc (·.push (← reSlice a 0 (done : Int).toNat a.size))
   let joiner ← reSlice a 0 0 0
   let text ← if ((← seqItems? (.ref pc)).getD #[]).isEmpty then pure joiner
    else call (.builtin (if (0 : Nat) == 0 then "str.join" else "bytes.join")) [joiner,.ref pc]
   if false then ret (← holding [text] do newTuple [text, ← mkInt (n : Int)]) else ret text) _ _ _
  rw [if_neg (by simpa using hd)]
  exact jn ps kk s hl (Nat.le_succ_of_le hz) (fun p hp => Nat.le_trans (hps p hp) (by decide)) hres (fun tk t => h s.heap tk t (Heap.SameBut.refl ..))
end
end Mine
end MpZ2x
section MpZ3x
open PySem PySem.Builtin.Str
namespace Mine
open PySem.Builtin PySem.Builtin.Re
section
variable {prog : Program} {w : World} {A A₀ : Around} {E : VP} {s : Shared} {P C : Addr} {codes : Array Value} {a : Array Nat} {u : Tok}
end
end Mine
end MpZ3x
section MpZ4x
open PySem PySem.Builtin.Str
namespace Mine
open PySem.Builtin PySem.Builtin.Re
theorem fn_call : ∃ v,typeLookup (.type "function") "__call__" = pure (some v) := ⟨.builtin "function.__call__",by rw [typeLookup_type,builtinLookup_eq_fast]; kernel_rfl⟩
theorem zdj : isSubtype (.type "str") (.type "bytearray") = pure false := by rw [isSubtype_type]; kernel_rfl
section
variable {prog : Program} {w : World} {A A₀ : Around} {E : VP} {s : Shared} {P C : Addr} {codes : Array Value} {a : Array Nat} {u : Tok}
theorem ziE {R : Result → Shared → Prop} (hp : PatAt s.heap P C codes) {lam : Addr} {ol : Obj} (hl : s.heap.get? lam = some ol) (hc : ol.cls = .type "function")
  (h : codeAny (model prog w) A₀ (.builtin "re.Pattern.sub.loop" ⟨[.ref P,.str ⟨a⟩ u,.ref lam,rawInt 1,rawInt 0,rawInt 0,rawInt 0,rawInt 0,.bool false,.ref s.heap.objs.size,.bool false],[]⟩) R { s with heap := s.heap.push (lobj #[] 0) }) :
  wpAny (model prog w) A (Builtin.«re.Pattern.sub» ⟨[.ref P,.ref lam,.str ⟨a⟩ u],[]⟩) (fun fin s' => match fin with | .done f => R (.ok f) s' | .again c' => c'.quiet = true ∧ codeAny (model prog w) A₀ c' R s') E s := by
 obtain ⟨hh,g,d,tk,os⟩ := s
 have hT : (⟨hh,g,d,tk,os⟩ : Shared).TypeIs (.ref lam) "function" := ⟨ol,hl,hc⟩
 obtain ⟨cv,f1⟩ := fn_call
 have f2 := zdj
 unfold Builtin.«re.Pattern.sub» reSubstitute
 repeat (any_goals (first | assumption | ((with_reducible show wpAny _ _ (reWholeTarget _ _) _ _ _); refine zhg hp ?_) | wp_step))
 exact ⟨plainId_quiet zcI _,h⟩
end
end Mine
end MpZ4x
section
open PySem PySem.Builtin.Str PySem.W PySem.Calls PyProof.Rows
namespace Mine
noncomputable def TabXF (c Pt : Addr) (qs : List (Pos × PySem.Str)) (F : AP) (h : Heap) : Prop :=
 F c ∧ CodeHd h c Pt ∧ ∃ ps,h.get? Pt = some (tabObj ps) ∧ TriplesOk ps.toList ∧ ∀ pos q,(pos,q) ∈ qs → ∀ cv,codeAmong pos ps.toList = some cv → ∃ c',cv = .ref c' ∧ F c' ∧ h.CodeRec (.ref c') q
theorem TabXF.mono {c Pt : Addr} {qs : List (Pos × PySem.Str)} {F F' : AP} {h h' : Heap} (x : TabXF c Pt qs F h) (hF : ∀ a,F a → F' a) (hk : ∀ a o,F a ∨ a = Pt → h.get? a = some o → h'.get? a = some o) : TabXF c Pt qs F' h' := by
 obtain ⟨fc,⟨o,vs,file,tf,flags,tg,inF,text,tt,e,r⟩,ps,g,ht,hq⟩ := x
 refine ⟨hF _ fc,⟨o,vs,file,tf,flags,tg,inF,text,tt,hk _ _ (.inl fc) e,r⟩,ps,hk _ _ (.inr rfl) g,ht,fun pos q hm cv hc => ?_⟩
 obtain ⟨c',e',f',rec⟩ := hq pos q hm cv hc
 exact ⟨c',e',hF _ f',rec.at fun o e => hk _ o (.inl f') e⟩
theorem zch {pos p2 : Pos} {c : Value} : ∀ {l : List Value},TriplesOk l → (pos.line ≠ p2.line ∨ pos.col ≠ p2.col) → codeAmong pos (l ++ [rawInt p2.line,rawInt p2.col,c]) = codeAmong pos l
 | l,h,hne => by
  fun_induction TriplesOk l with
  | case1 =>
   simp only [List.nil_append,codeAmong,rawInt]
   rw [if_neg]
   intro hh
   simp only [Bool.and_eq_true,beq_iff_eq] at hh
   omega
  | case2 a t b u x rest ih =>
   simp only [List.cons_append,codeAmong]
   split
   ·rfl
   ·exact ih h
  | case3 l h1 h2 => exact h.elim
set_option genInjectivity false in
structure LamG (cx : XCx) where
 c : Addr
 Pt : Addr
 qs : List (Pos × PySem.Str)
 xget : ∀ F h,cx.XF F h → TabXF c Pt qs F h
 xset : ∀ F F' h h',cx.XF F h → (∀ a,F a → F' a) → (∀ a o,F a ∨ (cx.X a ∧ a ≠ Pt) → h.get? a = some o → h'.get? a = some o) → TabXF c Pt qs F' h' → cx.XF F' h'
 xp : cx.X Pt
 x0 : ∀ a o,cx.h0.get? a = some o → ¬ cx.X a
 apart : qs.Pairwise fun a b => a.1.line ≠ b.1.line ∨ a.1.col ≠ b.1.col
 blt : cx.h0.BuiltinsAt cx.mg Pt
section
variable {cx : XCx} {ε : Sc}
theorem zgy {qs : List (Pos × PySem.Str)} (ap : qs.Pairwise fun a b => a.1.line ≠ b.1.line ∨ a.1.col ≠ b.1.col) {p1 p2 : Pos} {q1 q2 : PySem.Str} (h1 : (p1,q1) ∈ qs) (h2 : (p2,q2) ∈ qs) : (p1 = p2 ∧ q1 = q2) ∨ p1.line ≠ p2.line ∨ p1.col ≠ p2.col := by
 induction qs with
 | nil => cases h1
 | cons x r ih =>
  obtain ⟨a1,a2⟩ := List.pairwise_cons.mp ap
  rcases List.mem_cons.mp h1 with e1 | h1
  ·rcases List.mem_cons.mp h2 with e2 | h2
   ·rw [← e1] at e2; cases e2; exact .inl ⟨rfl,rfl⟩
   ·have := a1 _ h2; rw [← e1] at this; exact .inr this
  ·rcases List.mem_cons.mp h2 with e2 | h2
   ·have := a1 _ h1; rw [← e2] at this; exact .inr (this.imp Ne.symm Ne.symm)
   ·exact ih a2 h1 h2
theorem zkX (G : LamG cx) {n cf A env F s ρ ad m cm} (H : Here cx ε n cf A env F s ρ ad m cm) {qual : PySem.Str} (hcode : ε.code = some (G.c,qual)) {params : Arguments} {body : Expr} {scope : Scope} {pos : Pos} (hdef : defaultsOf params env = ([],[]))
  (hq : (pos,qual ++ "<lambda>") ∈ G.qs) (hcl : closureFor scope env = pure []) {Q E : VP}
  (hQ : ∀ F' s' lam c' ctv,Step cx F s F' s' → s.heap.get? lam = none → ¬ F' lam → s'.heap.get? lam = some (kla_obj "<lambda>" (qual ++ "<lambda>") params body scope [] ((cx.mg "__name__").getD .none) c' ctv) → F' c' → s'.heap.CodeRec (.ref c') (qual ++ "<lambda>") → Q (.ref lam) s') :
  wpAny (model cx.prog cx.w) A (eval (.Lambda params body scope pos) env) Q E s := by
 obtain ⟨hc,hqual⟩ := H.env.code _ _ hcode
 refine kla_eval hdef ?_
 rw [hqual]
 obtain ⟨fc,hd,ps,g,ht,hqs⟩ := G.xget _ _ H.wd.xi
 have hg := H.wd.glob H.ok
 have nP : ∀ {a o},cx.h0.get? a = some o → a ≠ G.Pt → s.heap.get? a = some o := fun e _ => H.wd.base _ _ e (G.x0 _ _ e)
 have hgP : mainGlobals ≠ G.Pt := fun e => H.ok.gx (e ▸ G.xp)
 have hblt : s.heap.BuiltinsAt cx.mg G.Pt := by
  obtain ⟨bm,o,b1,b2,b3,b4,b5,r⟩ := G.blt
  exact ⟨bm,o,b1,b2,b3,b4,nP b5 b4,r⟩
 cases hca : codeAmong pos ps.toList with
 | none =>
  refine kla_makeFunction hcl H.env.glob hg hc hd g ht hca hgP hblt fun c' ctv h' tk hx hge hlt hrec htb => ?_
  have hXP : cx.X G.Pt := G.xp
  have fP : ¬ F G.Pt := fun h => H.wd.nx _ h hXP
  have keep : ∀ a o,s.heap.get? a = some o → ¬ cx.X a → h'.get? a = some o := fun a o e nx => hx a o (fun e' => nx (e' ▸ G.xp)) e
  have frc : s.heap.get? c' = none := by
   cases e : s.heap.get? c' with
   | none => rfl
   | some o => exact absurd (Heap.lt_size e) (Nat.not_lt.mpr hge)
  have ndC : ¬ cx.X c' := H.wd.newNotX frc
  obtain ⟨c2,oc,vs,t,e2,goc,r⟩ := hrec
  (injection e2 with e2; subst e2)
  let h3 : Heap := h'.push (kla_obj "<lambda>" (qual ++ "<lambda>") params body scope [] ((cx.mg "__name__").getD .none) c' ctv)
  have up : ∀ a o,h'.get? a = some o → h3.get? a = some o := fun a o e => Heap.get?_push_of_some _ e
  have frl : s.heap.get? h'.objs.size = none := by
   cases e : s.heap.get? h'.objs.size with
   | none => rfl
   | some o => exact absurd (Nat.lt_of_lt_of_le (Heap.lt_size e) (Nat.le_trans hge (Nat.le_of_lt hlt))) (Nat.lt_irrefl _)
  have rec3 : h3.CodeRec (.ref c') (qual ++ "<lambda>") := ⟨c',oc,vs,t,rfl,up _ _ goc,r⟩
  have st : Step cx F s (fun a => F a ∨ a = c') { s with heap := h3,toks := tk } := by
   refine ⟨fun _ h => .inl h,fun a h => h.imp (fun h => h) (fun (e : a = c') => by rw [e]; exact frc),fun a o e nx => up _ _ (keep a o e nx),rfl,⟨fun a o e nx => up _ _ (keep a o (H.wd.base a o e nx) nx), ?_,H.wd.gens,fun a o e nx => .inl (H.wd.f0 a o e nx),fun a h => ?_,fun a h => h.elim (H.wd.nx a) (fun (e : a = c') => by rw [e]; exact ndC),fun a h => ?_⟩⟩
   ·refine G.xset _ _ _ _ H.wd.xi (fun _ h => .inl h) (fun a o h e => up _ _ (hx a o (h.elim (fun f e' => fP (e' ▸ f)) (·.2)) e)) ⟨.inl fc, ?_,_,up _ _ htb, ?_,fun p q hm cv hcv => ?_⟩
    ·obtain ⟨o,vs,file,tf,flags,tg,inF,text,tt,e,r⟩ := hd
     exact ⟨o,vs,file,tf,flags,tg,inF,text,tt,up _ _ (keep _ _ e (H.wd.nx _ fc)),r⟩
    ·have := TriplesOk_snoc pos.line pos.col (.ref c') ps.toList ht
     simpa using this
    ·have ea : (ps ++ #[rawInt pos.line,rawInt pos.col,.ref c']).toList = ps.toList ++ [rawInt pos.line,rawInt pos.col,.ref c'] := by simp
     rw [ea] at hcv
     rcases zgy G.apart hm hq with ⟨rfl,rfl⟩ | hne
     ·rw [codeAmong_snoc _ ht hca] at hcv
      (injection hcv with hcv; subst hcv)
      exact ⟨c',rfl,.inr rfl,rec3⟩
     ·rw [zch ht hne] at hcv
      obtain ⟨c4,e4,f4,r4⟩ := hqs p q hm cv hcv
      exact ⟨c4,e4,.inl f4,r4.at fun o e => up _ _ (keep _ _ e (H.wd.nx _ f4))⟩
   ·rcases h with h | h
    ·obtain ⟨o,e⟩ := H.wd.lt a h
     exact ⟨o,up _ _ (keep a o e (H.wd.nx a h))⟩
    ·subst h; exact ⟨oc,up _ _ goc⟩
   ·by_cases ea : a = G.Pt
    ·rw [ea]; exact ⟨_,up _ _ htb⟩
    ·obtain ⟨o,e⟩ := H.wd.xex a h
     exact ⟨o,up _ _ (hx a o ea e)⟩
  refine hQ _ _ _ c' ctv st frl (fun h => ?_) (Heap.get?_push_size _ rfl) (.inr rfl) rec3
  rcases h with h | h
  ·obtain ⟨o,e⟩ := H.wd.lt _ h
   rw [frl] at e; injection e
  ·rw [← h] at hlt; exact absurd hlt (Nat.lt_irrefl _)
 | some cv =>
  obtain ⟨c',rfl,fc',rec⟩ := hqs pos _ hq cv hca
  refine kla_makeFunctionHit hcl H.env.glob hg hc hd g ht hca hblt fun ctv h' tk hk hsz => ?_
  have up : ∀ a o,s.heap.get? a = some o → (h'.push (kla_obj "<lambda>" (qual ++ "<lambda>") params body scope [] ((cx.mg "__name__").getD .none) c' ctv)).get? a = some o := fun a o e => Heap.get?_push_of_some _ (hk a o e)
  have frl : s.heap.get? h'.objs.size = none := by
   cases e : s.heap.get? h'.objs.size with
   | none => rfl
   | some o => exact absurd (Nat.lt_of_lt_of_le (Heap.lt_size e) hsz) (Nat.lt_irrefl _)
  refine hQ F _ _ c' ctv (Step.grown H.ok H.wd tk up) frl (H.wd.newNotF frl) (Heap.get?_push_size _ rfl) fc' (rec.at fun o e => up _ _ e)
end
section
variable {cx : XCx} {A : Around} {E : VP} {s : Shared} {Pa : Addr} {a : Array Nat} {u : Tok}
noncomputable def lamBody (k1 k2 k3 : Nat) (p1 p2 p3 p4 p5 p6 p7 p8 : Pos) : Expr :=
 .BinOp (.Constant (.str "\\") k1 p1) .Add (.BoolOp .Or [.Call (.Attribute (.Name "_m" p2) "group" p3) [.Constant (.int 1) k2 p4] [] p5,.Constant (.str "") k3 p6] p7) p8
end
noncomputable def lamParams (p : Pos) : Arguments := { posonlyargs := [],args := [{ arg := "_m",annotation := none,pos := p }],vararg := none,kwonlyargs := [],kw_defaults := [],kwarg := none,defaults := [] }
noncomputable def lamScope : Scope := { kind := .function,names := [("_m",.local)],isGenerator := false,isCoroutine := false }
section
variable {cx : XCx} {A : Around} {E : VP} {s : Shared} {Pa : Addr} {a : Array Nat} {u : Tok}
end
end Mine
end
section MpZ8x
open PySem PySem.Builtin.Str PySem.W PySem.Calls PyProof.Rows
namespace Mine
open PySem.Builtin PySem.Builtin.Re
noncomputable def failedB (m : Sre.M) : Bool := match m.outcome with | some .failed => true | _ => false
theorem zih {m : Sre.M} (h : failedB m = true) : m.outcome = some .failed := by
 unfold failedB at h
 split at h
 ·assumption
 ·injection h
theorem zkL : (noHit.all fun a => failedB ((Sre.forSearch reCode a.toArray 1 0 a.toArray.size false).runFor (4 * (0 + 1)))) = true := by decide +kernel
section
variable {prog : Program} {w : World} {A : Around} {s : Shared}
theorem zju {args : Args} {R : Result → Shared → Prop}
  (h : wpAny (model prog w) A.in1 (Builtin.«re.Pattern.sub.loop» args) (fun fin s' => match fin with | .done f => R (.ok f) s' | .again c' => c'.quiet = true ∧ codeAny (model prog w) A c' R s') (fun e s' => R (.error e) s') s) :
  codeAny (model prog w) A (.builtin "re.Pattern.sub.loop" args) R s :=
 codeAny_builtin zeN (by rw [Around.under_plainId zcI _]; exact h)
theorem zjj {P C : Addr} {codes : Array Value} {a : Array Nat} {u : Tok} {lam : Addr} :
  MeetsIn prog w (Builtin.«re.Pattern.sub» ⟨[.ref P,.ref lam,.str ⟨a⟩ u],[]⟩) (fun A R s => (PatAt s.heap P C codes ∧ ∃ ol,s.heap.get? lam = some ol ∧ ol.cls = .type "function") ∧
   codeAny (model prog w) A (.builtin "re.Pattern.sub.loop" ⟨[.ref P,.str ⟨a⟩ u,.ref lam,rawInt 1,rawInt 0,rawInt 0,rawInt 0,rawInt 0,.bool false,.ref s.heap.objs.size,.bool false],[]⟩) R { s with heap := s.heap.push (lobj #[] 0) }) :=
 fun A R s hs => by
  obtain ⟨⟨hp,ol,hl,hc⟩,h⟩ := hs
  exact ziE (A := A.in1) (A₀ := A) hp hl hc h
theorem zki {P C : Addr} {codes : Array Value} {a : List Nat} {u : Tok} (ha : noHit.contains a = true) (hp : PatAt s.heap P C codes) {lam : Addr} {ol : Obj} (hl : s.heap.get? lam = some ol) (hc : ol.cls = .type "function") {Q E : VP}
  (h : ∀ h' tk t,(∀ b o,s.heap.get? b = some o → h'.get? b = some o) → Q (.str ⟨a.toArray⟩ t) { s with heap := h',toks := tk }) :
  wpAny (model prog w) A (call (.builtin "re.Pattern.sub") [.ref P,.ref lam,.str ⟨a.toArray⟩ u]) Q E s := by
 have hT : s.TypeIs (.ref P) "re.Pattern" := by
  obtain ⟨x,t,u,v,w,y,e,_⟩ := hp.pat
  exact ⟨_,e,rfl⟩
 have hm : a ∈ noHit := by simpa using ha
 have hf := zih (List.all_eq_true.mp zkL a hm)
 have hlen : a.length ≤ 10 := by
  have : (noHit.all fun a => decide (a.length ≤ 10)) = true := by decide
  simpa using List.all_eq_true.mp this a hm
 refine call_meetsIn zdx hT zfD (zeR _ _ _) zjj ⟨⟨hp,ol,hl,hc⟩,zju ?_⟩
 have hk : ∀ b o,s.heap.get? b = some o → (s.heap.push (lobj #[] 0)).get? b = some o := fun b o e => Heap.get?_push_of_some _ e
 have hnew : (s.heap.push (lobj #[] 0)).get? s.heap.objs.size = some (lobj (strValues []).toArray 0) := Heap.get?_push_size _ rfl
 refine zjt (n := 0) (done := 0) (start := 0) (ps := []) (kk := 0) (res := ⟨a.toArray⟩) (hp.keeps hk) hnew ⟨0,by decide,hf⟩ (by simp) (by rw [List.size_toArray]; omega) (by simp) ?_ fun h' tk t sb => ?_
 ·cases a with
  | nil => rfl
  | cons c r =>
   rw [if_pos (by simp)]
   have e : (c :: r).toArray.extract 0 (c :: r).toArray.size = (c :: r).toArray := by simp
   rw [e]
   unfold Txt.join
   have := zdr [] [c :: r]
   simpa [joinL,Str.empty] using this
 ·refine h h' tk t fun b o e => (sb.2 b (Nat.ne_of_lt (Heap.lt_size e))).trans (hk b o e)
end
end Mine
end MpZ8x
section MpZ9x
open PySem PySem.Builtin.Str PySem.W PySem.Calls PyProof.Rows
namespace Mine
open PySem.Builtin PySem.Builtin.Re
section
variable {cx : XCx} {A : Around} {s : Shared}
end
end Mine
end MpZ9x
section
open PySem PySem.Builtin.Str PySem.W PySem.Calls PyProof.Rows
namespace Mine
set_option genInjectivity false in
structure PatG (cx : XCx) where
 P : Addr
 C : Addr
 codes : Array Value
 nP : ¬ cx.X P
 nC : ¬ cx.X C
 at0 : PatAt cx.h0 P C codes
theorem PatG.at {cx : XCx} (G : PatG cx) {F : AP} {s : Shared} (w : Wd cx F s) : PatAt s.heap G.P G.C G.codes := by
 obtain ⟨⟨a,t,u,v,w',y,e,r⟩,⟨n,ec⟩,is⟩ := G.at0
 exact ⟨⟨a,t,u,v,w',y,w.base _ _ e G.nP,r⟩,⟨n,w.base _ _ ec G.nC⟩,is⟩
section
variable {cx : XCx} {ε : Sc}
theorem zfT (G : LamG cx) (PG : PatG cx) {x : PySem.Str} {p apos pos lp p0 : Pos} {e : Expr} {y : X} {qual : PySem.Str} {k1 k2 k3 : Nat} {p1 p2 p3 p4 p5 p6 p7 p8 : Pos} (hk : ε.kinds.lookup x = some .globalImplicit) (hv : cx.mg x = some (.ref PG.P)) (hd : (x == ("__debug__" : PySem.Str)) = false)
  (hcode : ε.code = some (G.c,qual)) (hq : (lp,qual ++ "<lambda>") ∈ G.qs) (hl : (apos.endLine == pos.line) = true) (hpl : (p3.endLine == p5.line) = true) (hst : starred e = false) (h : Sound cx ε e y) :
  Sound cx ε (.Call (.Attribute (.Name x p) "sub" apos) [.Lambda (lamParams p0) (lamBody k1 k2 k3 p1 p2 p3 p4 p5 p6 p7 p8) lamScope lp,e] [] pos) (.op .resub0 (.cons y .nil)) := by
 refine Sound.ofE ?_ fun _ => rfl
 intro n cf A env F s ρ ad m cm H res he Q E hQ
 obtain ⟨rs,e1,e2⟩ := ev_op he
 obtain ⟨r0,rs',e3,e4,rfl⟩ := zay e1
 obtain rfl := zbU e4
 have hstL : starred (.Lambda (lamParams p0) (lamBody k1 k2 k3 p1 p2 p3 p4 p5 p6 p7 p8) lamScope lp) = false := rfl
 have hany : (backTo pos (starEach [.Lambda (lamParams p0) (lamBody k1 k2 k3 p1 p2 p3 p4 p5 p6 p7 p8) lamScope lp,e] env)).any (·.1) = false := by
  rw [zao hstL,zav,List.any_cons,zao hst,zav,List.any_cons]; rfl
 refine zb8 rfl hl (by simp) hany ?_
 refine zbO H hk hv hd ?_
 obtain ⟨px,pt,pu,pv,pw,py,pe,_⟩ := (PG.at H.wd).pat
 refine getMethod_builtin (T := "re.Pattern") ⟨_,pe,rfl⟩ zeI zdx zfL (fun a e => ⟨_,by cases e; exact pe,rfl⟩) ?_
 refine Calls.callWith_builtin hany ?_
 rw [zao hstL,zav,zao hst,zav]
 have hcl : closureFor lamScope env = pure [] := closureFor_none (by intro y hy; simp [lamScope] at hy; subst hy; decide)
 refine Calls.evalArgs_plain (Calls.spliced_cons (zkX G H hcode rfl hq hcl fun F1 s1 lam c' ctv st1 fr1 nf1 g1 fc1 rec1 => ?_))
 have H1 := H.step st1
 refine Calls.spliced_cons (h.ev n cf A env F1 s1 ρ ad m cm H1 r0 e3 _ _ fun v F2 s2 st2 q2 => Calls.spliced_nil ?_)
 show wpAny _ _ (call (.builtin "re.Pattern.sub") [.ref PG.P,.ref lam,v]) _ _ s2
 have nxl : ¬ cx.X lam := H.wd.newNotX fr1
 have g2 := st2.keep _ _ g1 nxl
 have rec2 := rec1.at fun o e => st2.keep _ o e (st1.wd.nx _ fc1)
 simp only [List.map_cons,List.map_nil] at e2; delta opF at e2; dsimp only at e2
 unfold opResub0 at e2
 split at e2
 ·rename_i a ea
  have qb := q2.brep
  have ea' : r0.ds = .str a := by simpa using ea
  rw [ea'] at qb
  obtain ⟨t,rfl,pp,z⟩ := qb.str_inv
  have stt := st1.trans st2
  split at e2
  ·rename_i hno
   (injection e2 with e2; subst e2)
   refine zki hno (PG.at st2.wd) g2 rfl fun h' tk t' hk' => ?_
   exact hQ _ F2 _ (stt.trans (Step.grown H.ok st2.wd tk hk')) (.val (.str t' pp z))
  ·injection e2
 ·injection e2
end
section
variable {M : Model} {A : Around} {E : VP} {s : Shared}
theorem zk3 {env : Env} {c P : Addr} {ps : Array Value} {pos : Pos} {qual : PySem.Str} {scope : Scope} {Q : VP} (hc : env.code = .ref c) (C : CodeHd s.heap c P) (hP : s.heap.get? P = some (tabObj ps)) (ht : TriplesOk ps.toList)
  (hQ : ∀ code h' tk,Heap.ExtBut P s.heap h' → (h'.get? P = some (tabObj ps) ∨ (codeAmong pos ps.toList = none ∧ ∃ c',code = .ref c' ∧ s.heap.objs.size ≤ c' ∧ h'.CodeRec (.ref c') qual ∧ h'.get? P = some (tabObj (ps ++ #[rawInt pos.line,rawInt pos.col,.ref c'])))) → Q code { s with heap := h',toks := tk }) :
  wpAny M A (genexprCode env pos qual scope) Q E s := by
 cases hca : codeAmong pos ps.toList with
 | some cv =>
  obtain ⟨o,vs,file,tf,flags,tg,inF,text,tt,op,ho,hd,h11,h2,h7,h9,h10,hop,hpd,htr,hne⟩ := id (C.code hP ht)
  unfold genexprCode codeAt
  rw [hc,if_neg (show ¬ ((Value.ref c == Value.none) = true) from Bool.false_ne_true)]
  refine wb (wpAny_fieldsOf ho hd ?_)
  rw [h11]
  refine wb (wpAny_fieldsOf hop hpd ?_)
  rw [hca]
  exact wpAny_pure (hQ cv s.heap s.toks (Heap.ExtBut.refl _ _) (.inl hP))
 | none =>
  obtain ⟨o,vs,file,tf,flags,tg,inF,text,tt,op,ho,hd,h11,h2,h7,h9,h10,hop,hpd,htr,hne⟩ := id (C.code hP ht)
  unfold genexprCode codeAt
  rw [hc,if_neg (show ¬ ((Value.ref c == Value.none) = true) from Bool.false_ne_true)]
  refine wb (wpAny_fieldsOf ho hd ?_)
  rw [h11]
  refine wb (wpAny_fieldsOf hop hpd ?_)
  rw [hca,h2,h7,h9,h10]
  refine wb (wpAny_newCode fun c' P' h' tk hk hc' hP' hcode' hrec' => ?_)
  have hop' := hk _ _ hP
  refine wb (wpAny_updateFieldsOfTheText hop' rfl ?_)
  have hnew : (Obj.mapFields (fun vs => if (codeAmong pos vs.toList).isSome = true then vs else vs ++ #[rawInt pos.line,rawInt pos.col,.ref c']) (tabObj ps)) = tabObj (ps ++ #[rawInt pos.line,rawInt pos.col,.ref c']) := by
   simp [Obj.mapFields,hca]
  have hget := Heap.get?_update_self (h := h') (fun o => Obj.mapFields (fun vs => if (codeAmong pos vs.toList).isSome = true then vs else
   vs ++ #[rawInt pos.line,rawInt pos.col,.ref c']) o) hop' (by rw [hnew]; rfl)
  rw [hnew] at hget
  refine wb (wpAny_fieldsOf hget rfl ?_)
  have hl : (ps ++ #[rawInt pos.line,rawInt pos.col,Value.ref c']).toList = ps.toList ++ [rawInt pos.line,rawInt pos.col,.ref c'] := by simp
  rw [hl,codeAmong_snoc _ ht hca]
  refine wpAny_pure (hQ _ _ _ (fun b o' hb e => ((Heap.SameBut.update ..).extBut b o' hb (hk b o' e))) (.inr ⟨hca,c',rfl,hc', ?_,hget⟩))
  obtain ⟨c2,oc,vs2,t2,e2,goc,r2⟩ := hrec'
  (injection e2 with e2; subst e2)
  have hcP : c' ≠ P := fun e => by
   have := Heap.lt_size hP
   rw [← e] at this
   exact absurd this (Nat.not_lt.mpr hc')
  exact ⟨c',oc,vs2,t2,rfl,(Heap.SameBut.update ..).extBut _ _ hcP goc,r2⟩
end
section
variable {cx : XCx} {A : Around} {E : VP} {s : Shared}
theorem zfY {a b c : PySem.Str} {t u v : Tok} (hocc : (occurrences a b 0 a.length (a.length + 1)).isEmpty = true) {mc : PySem.Str → Option Value} (n1 : s.heap.Ns cStatics mc) (n2 : mc sharingNotToldKey = none) {Q : VP} (h : Q (.str a t) s) :
  wpAny (model cx.prog cx.w) A (call (.builtin "str.replace") [.str a t,.str b u,.str c v]) Q E s := by
 have e : ((occurrences a b 0 a.length (a.length + 1)).isEmpty || (b.length == 0 && c.length == 0)) = true := by rw [hocc]; rfl
 refine call_givesAt PySem.F.slot_str_replace (typeIs_str _ _ _) PySem.F.entry_str_replace (PySem.F.args_str_replace_3 _ _ _) (gives_str_replace2 _ _ _ t u v fun h => by rw [e] at h; injection h) ⟨mc,n1,n2⟩ ?_
 rw [if_pos e]
 exact h
noncomputable def repElt (x : PySem.Str) (b1 c1 b2 c2 : PySem.Str) (k1 k2 k3 k4 : Nat) (p1 p2 p3 p4 p5 p6 p7 p8 p9 : Pos) : Expr :=
 .Call (.Attribute (.Call (.Attribute (.Name x p1) "replace" p2) [.Constant (.str b1) k1 p3,.Constant (.str c1) k2 p4] [] p5) "replace" p6) [.Constant (.str b2) k3 p7,.Constant (.str c2) k4 p8] [] p9
theorem ziS {o : Expr} {env : Env} {b c a : PySem.Str} {t : Tok} {k1 k2 : Nat} {p2 p3 p4 p5 : Pos} (hb : plainBase o = true) (hl : (p2.endLine == p5.line) = true) (hocc : (occurrences a b 0 a.length (a.length + 1)).isEmpty = true) {mc : PySem.Str → Option Value} (n2 : mc sharingNotToldKey = none) {Q : VP}
  (h : wpAny (model cx.prog cx.w) A (eval o env) (fun v s₁ => v = .str a t ∧ s₁.heap.Ns cStatics mc ∧ ∀ k,Q (.str a t) { s₁ with toks := k }) E s) (hz : b.length ≤ 10 ∧ c.length ≤ 10) :
  wpAny (model cx.prog cx.w) A (eval (.Call (.Attribute o "replace" p2) [.Constant (.str b) k1 p3,.Constant (.str c) k2 p4] [] p5) env) Q E s := by
 refine zb8 hb hl (by simp) rfl (wpAny_mono h (fun v s₁ h₁ => ?_) fun _ _ e => e)
 obtain ⟨rfl,n1,hQ⟩ := h₁
 refine GM.replace ?_
 refine Calls.callWith_builtin rfl (Calls.evalArgs_plain (Calls.spliced_cons (Calls.Constant_str (k := k1) (pos := p3) (Calls.spliced_cons (Calls.Constant_str (k := k2) (pos := p4) (Calls.spliced_nil ?_))))))
 show wpAny _ _ (call (.builtin "str.replace") [.str a t,.str b _,.str c _]) Q E { s₁ with toks := s₁.toks + 1 + 1 }
 exact zfY (cx := cx) (s := { s₁ with toks := s₁.toks + 1 + 1 }) hocc n1 n2 (hQ _)
end
section
variable {cx : XCx} {A : Around} {E : VP} {s : Shared}
theorem rep_elt {env : Env} {x b1 c1 b2 c2 a : PySem.Str} {t : Tok} {k1 k2 k3 k4 : Nat} {p1 p2 p3 p4 p5 p6 p7 p8 p9 : Pos} (hl1 : (p2.endLine == p5.line) = true) (hl2 : (p6.endLine == p9.line) = true) (ho1 : (occurrences a b1 0 a.length (a.length + 1)).isEmpty = true) (ho2 : (occurrences a b2 0 a.length (a.length + 1)).isEmpty = true)
  {mc : PySem.Str → Option Value} (n1 : s.heap.Ns cStatics mc) (n2 : mc sharingNotToldKey = none) (hk : env.scope.kind = .function) (hl : env.kindOf x = some .local) {m : PySem.Str → Option Value} (hn : s.heap.Ns env.locals m) (hm : m x = some (.str a t)) (hd : (x == ("__debug__" : PySem.Str)) = false)
  (hz : b1.length ≤ 10 ∧ c1.length ≤ 10) (hz2 : b2.length ≤ 10 ∧ c2.length ≤ 10) {Q : VP} (h : ∀ k,Q (.str a t) { s with toks := k }) :
  wpAny (model cx.prog cx.w) A (eval (repElt x b1 c1 b2 c2 k1 k2 k3 k4 p1 p2 p3 p4 p5 p6 p7 p8 p9) env) Q E s := by
 unfold repElt
 refine ziS rfl hl2 ho2 n2 (t := t) ?_ hz2
 refine ziS rfl hl1 ho1 n2 (t := t) ?_ hz
 refine wpAny_Name (wpAny_loadName_local hk hl hn hm ?_) hd
 exact ⟨rfl,n1,fun k => ⟨rfl,n1,fun k' => h k'⟩⟩
end
noncomputable def repX (i : Nat) (b1 c1 b2 c2 : List Nat) : X :=
 .op .replace (.cons (.op .replace (.cons (.var i) (.cons (.const (.str b1)) (.cons (.const (.str c1)) .nil)))) (.cons (.const (.str b2)) (.cons (.const (.str c2)) .nil)))
noncomputable def noOcc (a b : List Nat) : Bool := (occurrences ⟨a.toArray⟩ ⟨b.toArray⟩ 0 a.length (a.length + 1)).isEmpty
theorem zc4 {d : D} {b c : List Nat} {r : R} (h : opF .replace [d,.str b,.str c] = some r) : ∃ a,d = .str a ∧ noOcc a b = true ∧ r = .val (.str a) := by
 obtain ⟨a,b',c',e,h⟩ := zfc (show opReplace [d,.str b,.str c] = some r from h)
 cases e
 obtain ⟨ho,rfl⟩ := zce h
 exact ⟨a,rfl,ho,rfl⟩
theorem zku {cf : CfT} {i : Nat} {b1 c1 b2 c2 : List Nat} {ρ : List Slot} {d : D} {r : R} (h : ev cf (repX i b1 c1 b2 c2) (ρ.set i (.val d)) = some [r]) : ∃ a,d = .str a ∧ noOcc a b1 = true ∧ noOcc a b2 = true ∧ r = .val (.str a) := by
 unfold repX at h
 obtain ⟨rs,e1,e2⟩ := ev_op h
 obtain ⟨r0,rs0,e3,e4,rfl⟩ := zay e1
 obtain ⟨r1,rs1,e5,e6,rfl⟩ := zay e4
 obtain ⟨r2,rs2,e7,e8,rfl⟩ := zay e6
 obtain rfl := zbU e8
 obtain ⟨rt,f1,f2⟩ := ev_op e3
 obtain ⟨q0,qs0,g3,g4,rfl⟩ := zay f1
 obtain ⟨q1,qs1,g5,g6,rfl⟩ := zay g4
 obtain ⟨q2,qs2,g7,g8,rfl⟩ := zay g6
 obtain rfl := zbU g8
 have cst : ∀ {l : List Nat} {ρ : List Slot} {r : R},ev cf (.const (.str l)) ρ = some [r] → r = .val (.str l) := fun h => by replace h := (zaF _).symm.trans h; (injection h with h; injection h with h z; clear z; subst h); rfl
 rw [cst e5,cst e7] at e2
 rw [cst g5,cst g7] at f2
 obtain ⟨a,ha,ho1,hr0⟩ := zc4 (d := q0.ds) f2
 subst hr0
 obtain ⟨a2,ha2,ho2,hr⟩ := zc4 (d := .str a) e2
 have : a = a2 := by simpa [R.ds] using ha2
 subst this
 refine ⟨a, ?_,ho1,ho2,hr⟩
 replace g3 := (zbu _).symm.trans g3
 rw [List.getElem?_set] at g3
 simp only [if_true] at g3
 split at g3
 ·rename_i d' e
  split at e <;> (first | (injection e; done) | (injection e with e; injection e with e; subst e))
  (injection g3 with g3; injection g3 with g3 z; clear z; subst g3)
  exact ha
 ·rename_i l e
  split at e <;> (first | (injection e; done) | (injection e with e; injection e; done) | (injection e with e; injection e with e; subst e))
 ·injection g3
section
variable {cx : XCx} {ε : Sc}
theorem zhN (G : LamG cx) {F : AP} {s : Shared} (ok : CxOk cx) (w : Wd cx F s) {ps : Array Value} {gpos : Pos} {code : Value} {qual : PySem.Str} {h' : Heap} (tk : Nat) (g : s.heap.get? G.Pt = some (tabObj ps)) (hap : ∀ p q,(p,q) ∈ G.qs → p.line ≠ gpos.line ∨ p.col ≠ gpos.col)
  (hx : Heap.ExtBut G.Pt s.heap h') (alt : h'.get? G.Pt = some (tabObj ps) ∨ (codeAmong gpos ps.toList = none ∧ ∃ c',code = .ref c' ∧ s.heap.objs.size ≤ c' ∧ h'.CodeRec (.ref c') qual ∧ h'.get? G.Pt = some (tabObj (ps ++ #[rawInt gpos.line,rawInt gpos.col,.ref c'])))) :
  Step cx F s F { s with heap := h',toks := tk } := by
 obtain ⟨fc,hd,ps0,g0,ht,hqs⟩ := G.xget _ _ w.xi
 rw [g] at g0
 have e0 : ps = ps0 := by cases g0; rfl
 subst e0
 have keep : ∀ a o,s.heap.get? a = some o → ¬ cx.X a → h'.get? a = some o := fun a o e nx => hx a o (fun e' => nx (e' ▸ G.xp)) e
 have hxi : TabXF G.c G.Pt G.qs F h' := by
  have hd' : CodeHd h' G.c G.Pt := by
   obtain ⟨o,vs,file,tf,flags,tg,inF,text,tt,e,r⟩ := hd
   exact ⟨o,vs,file,tf,flags,tg,inF,text,tt,keep _ _ e (w.nx _ fc),r⟩
  rcases alt with h | ⟨hn,c',rfl,hc',hrec,h⟩
  ·exact ⟨fc,hd',ps,h,ht,fun p q hm cv hcv => let ⟨c4,e4,f4,r4⟩ := hqs p q hm cv hcv; ⟨c4,e4,f4,r4.at fun o e => keep _ _ e (w.nx _ f4)⟩⟩
  ·have ea : (ps ++ #[rawInt gpos.line,rawInt gpos.col,.ref c']).toList = ps.toList ++ [rawInt gpos.line,rawInt gpos.col,.ref c'] := by simp
   refine ⟨fc,hd',_,h,by rw [ea]; exact TriplesOk_snoc _ _ _ _ ht,fun p q hm cv hcv => ?_⟩
   rw [ea,zch ht (hap p q hm)] at hcv
   obtain ⟨c4,e4,f4,r4⟩ := hqs p q hm cv hcv
   exact ⟨c4,e4,f4,r4.at fun o e => keep _ _ e (w.nx _ f4)⟩
 refine ⟨fun _ h => h,fun _ h => .inl h,keep,rfl,⟨fun a o e nx => keep a o (w.base a o e nx) nx,G.xset _ _ _ _ w.xi (fun _ h => h) (fun a o h e => hx a o (h.elim (fun f e' => w.nx a f (e' ▸ G.xp)) (·.2)) e) hxi,w.gens,w.f0,fun a h => ?_,w.nx,fun a h => ?_⟩⟩
 ·obtain ⟨o,e⟩ := w.lt a h
  exact ⟨o,keep a o e (w.nx a h)⟩
 ·by_cases ea : a = G.Pt
  ·rw [ea]
   rcases alt with h | ⟨_,_,_,_,_,h⟩ <;> exact ⟨_,h⟩
  ·obtain ⟨o,e⟩ := w.xex a h
   exact ⟨o,hx a o ea e⟩
end
end Mine
end
section

namespace Mine
theorem e1_2 {α0 : Sort _} {P0 P1 : α0 → Prop} {C : Prop} (h : ∃ x0,P0 x0 ∧ P1 x0) (k : ∀ x0,P0 x0 → P1 x0 → C) : C := by
 obtain ⟨x0,p0,p1⟩ := h
 exact k x0 p0 p1
theorem e2_3 {α0 : Sort _} {α1 : Sort _} {P0 P1 P2 : α0 → α1 → Prop} {C : Prop} (h : ∃ x0 x1,P0 x0 x1 ∧ P1 x0 x1 ∧ P2 x0 x1) (k : ∀ x0 x1,P0 x0 x1 → P1 x0 x1 → P2 x0 x1 → C) : C := by
 obtain ⟨x0,x1,p0,p1,p2⟩ := h
 exact k x0 x1 p0 p1 p2
theorem i8_8 {α0 : Sort _} {α1 : Sort _} {α2 : Sort _} {α3 : Sort _} {α4 : Sort _} {α5 : Sort _} {α6 : Sort _} {α7 : Sort _} {P0 P1 P2 P3 P4 P5 P6 P7 : α0 → α1 → α2 → α3 → α4 → α5 → α6 → α7 → Prop} (x0 : α0) (x1 : α1) (x2 : α2) (x3 : α3) (x4 : α4) (x5 : α5) (x6 : α6) (x7 : α7) (p0 : P0 x0 x1 x2 x3 x4 x5 x6 x7) (p1 : P1 x0 x1 x2 x3 x4 x5 x6 x7) (p2 : P2 x0 x1 x2 x3 x4 x5 x6 x7) (p3 : P3 x0 x1 x2 x3 x4 x5 x6 x7) (p4 : P4 x0 x1 x2 x3 x4 x5 x6 x7) (p5 : P5 x0 x1 x2 x3 x4 x5 x6 x7) (p6 : P6 x0 x1 x2 x3 x4 x5 x6 x7) (p7 : P7 x0 x1 x2 x3 x4 x5 x6 x7) : ∃ x0 x1 x2 x3 x4 x5 x6 x7,P0 x0 x1 x2 x3 x4 x5 x6 x7 ∧ P1 x0 x1 x2 x3 x4 x5 x6 x7 ∧ P2 x0 x1 x2 x3 x4 x5 x6 x7 ∧ P3 x0 x1 x2 x3 x4 x5 x6 x7 ∧ P4 x0 x1 x2 x3 x4 x5 x6 x7 ∧ P5 x0 x1 x2 x3 x4 x5 x6 x7 ∧ P6 x0 x1 x2 x3 x4 x5 x6 x7 ∧ P7 x0 x1 x2 x3 x4 x5 x6 x7 := ⟨x0,x1,x2,x3,x4,x5,x6,x7,p0,p1,p2,p3,p4,p5,p6,p7⟩
end Mine
end
section
open PySem PySem.Builtin.Str PySem.W PySem.Calls PyProof.Rows
namespace Mine
theorem zgO (n : Nat) : passing (fun _ => true) n 0 = List.range n := by
 unfold passing; simp
theorem zeq {f : D → Option (Option D)} (hf : ∀ d y,f d = some y → ∃ a,d = .str a ∧ y = some (.str a)) : ∀ {items l : List D},compGo f items = some l → l = items ∧ ∀ d ∈ items,f d = some (some d)
 | [],l,h => by (injection h with h; subst h); exact ⟨rfl,fun _ h => nomatch h⟩
 | d :: r,l,h => by
  unfold compGo at h
  split at h
  ·injection h
  ·rename_i e
   obtain ⟨a,_,e2⟩ := hf d _ e
   injection e2
  ·rename_i y e
   obtain ⟨a,rfl,e2⟩ := hf d _ e
   (injection e2 with e2; subst e2)
   split at h
   ·rename_i ys e3
    (injection h with h; subst h)
    obtain ⟨rfl,h2⟩ := zeq hf e3
    refine ⟨rfl,fun d' hd => ?_⟩
    rcases List.mem_cons.mp hd with rfl | hd
    ·exact e
    ·exact h2 d' hd
   ·injection h
theorem zd0 : ∀ {l : List D} {ls : List (List Nat)},toStrs l = some ls → l = ls.map .str
 | [],ls,e => by (injection e with e; subst e); rfl
 | d :: r,ls,e => by
  cases d <;> simp only [toStrs] at e <;> try injection e
  obtain ⟨ls',e',rfl⟩ := Option.map_eq_some_iff.mp e
  rw [List.map_cons, ← zd0 e']
theorem zjy {a : List Nat} {ls : List (List Nat)} (z : a.length ≤ lim) (hz : (joinL a ls).length ≤ lim) : JoinOk ⟨a.toArray⟩ (ls.map fun x => PySem.Str.mk x.toArray) = true := by
 unfold JoinOk tooLong
 rw [zfv,Nat.zero_add,List.map_map]
 simp only [Bool.not_eq_true',decide_eq_false_iff_not]
 rw [sizeLine_eq]
 unfold lim at hz z
 cases ls with
 | nil => simp
 | cons b r =>
  rw [zdG] at hz
  simp only [List.map_cons,List.sum_cons,Function.comp,za0]
  have e : (List.map ((fun x => x.length + a.length) ∘ fun x => PySem.Str.mk x.toArray) r).sum = (r.map fun x => a.length + x.length).sum := by
   congr 1
   apply List.map_congr_left
   intro x _
   show (PySem.Str.mk x.toArray).length + a.length = _
   rw [za0,Nat.add_comm]
  rw [e]
  omega
section
variable {cx : XCx} {ε : Sc}
set_option maxHeartbeats 1000000 in
theorem zfe (G : LamG cx) {sep x b1 c1 b2 c2 : PySem.Str} {lsep lb1 lc1 lb2 lc2 : List Nat} {k1 k2 k3 k4 k5 : Nat} {p1 p2 p3 p4 p5 p6 p7 p8 p9 ps px gpos apos pos : Pos} {scope : Scope} {iter : Expr} {it : X} {i : Nat} {qual : PySem.Str}
  (hsep : constD (.str sep) = some (.str lsep)) (hb1 : b1 = ⟨lb1.toArray⟩) (hb2 : b2 = ⟨lb2.toArray⟩) (hl : (apos.endLine == pos.line) = true) (hl1 : (p2.endLine == p5.line) = true) (hl2 : (p6.endLine == p9.line) = true)
  (hz : b1.length ≤ 10 ∧ c1.length ≤ 10) (hz2 : b2.length ≤ 10 ∧ c2.length ≤ 10) (hcode : ε.code = some (G.c,qual)) (hap : ∀ p q,(p,q) ∈ G.qs → p.line ≠ gpos.line ∨ p.col ≠ gpos.col)
  (hi : SoundI cx ε iter it) (hs : ∀ env x,genFold iter env x = pure x) (hco : scope.isCoroutine = false) (hcell : ∀ y ∈ scope.names,y.2 ≠ .cell) (hfree : ∀ y ∈ scope.names,y.2 ≠ .free) (h0 : scope.names.lookup (".0" : PySem.Str) = some NameKind.local)
  (hx : scope.names.lookup x = some .local) (hkind : scope.kind = .function) (hd : (x == ("__debug__" : PySem.Str)) = false) :
  Sound cx ε (.Call (.Attribute (.Constant (.str sep) k5 ps) "join" apos) [.GeneratorExp (repElt x b1 c1 b2 c2 k1 k2 k3 k4 p1 p2 p3 p4 p5 p6 p7 p8 p9) [⟨.Name x px,iter,[],0⟩] scope gpos] [] pos)
   (.op .join (.cons (.const (.str lsep)) (.cons (.comp i it (.const (.bool true)) (repX i lb1 lc1 lb2 lc2)) .nil))) := by
 refine Sound.ofE ?_ fun _ => rfl
 intro n cf A env F s ρ ad m cm H res he Q E hQ
 obtain ⟨rs,e1,e2⟩ := ev_op he
 obtain ⟨r0,rs0,e3,e4,rfl⟩ := zay e1
 obtain ⟨r1,rs1,e5,e6,rfl⟩ := zay e4
 obtain rfl := zbU e6
 refine e2_3 (zg9 e5) fun items l f1 f2 q1 => ?_
 subst q1
 have hr0 : r0 = .val (.str lsep) := by replace e3 := (zaF _).symm.trans e3; (injection e3 with e3; injection e3 with e3 z; clear z; subst e3); rfl
 subst hr0
 have turn : ∀ d y,turnC cf [i] one1 (.const (.bool true)) (repX i lb1 lc1 lb2 lc2) ρ d = some y → ∃ a,d = .str a ∧ y = some (.str a) ∧ noOcc a lb1 = true ∧ noOcc a lb2 = true := by
  intro d y h
  have h' : turnD (some [.val (.bool true)]) (ev cf (repX i lb1 lc1 lb2 lc2) (ρ.set i (.val d))) = some y := h
  unfold turnD truthR at h'
  simp only [R.ds,D.truth] at h'
  split at h'
  ·rename_i r er
   obtain ⟨a,h1,h2,h3,h4⟩ := zku er
   subst h4
   (injection h' with h'; subst h')
   exact ⟨a,h1,rfl,h2,h3⟩
  ·injection h'
 have cgs := zeq (fun d y h => let ⟨a,h1,h2,_⟩ := turn d y h; ⟨a,h1,h2⟩) f2
 have hall := cgs.2
 have cg1 := cgs.1
 subst cg1
 have itemStr : ∀ j d,l[j]? = some d → ∃ a,d = D.str a ∧ noOcc a lb1 = true ∧ noOcc a lb2 = true := fun j d hj => by
  obtain ⟨a,h1,_,h3,h4⟩ := turn d _ (hall d (List.mem_of_getElem? hj))
  exact ⟨a,h1,h3,h4⟩
 have hc := (H.env.code _ _ hcode).1
 have hqual := (H.env.code _ _ hcode).2
 have hstG : starred (.GeneratorExp (repElt x b1 c1 b2 c2 k1 k2 k3 k4 p1 p2 p3 p4 p5 p6 p7 p8 p9) [⟨.Name x px,iter,[],0⟩] scope gpos) = false := rfl
 have hany : (backTo pos (starEach [.GeneratorExp (repElt x b1 c1 b2 c2 k1 k2 k3 k4 p1 p2 p3 p4 p5 p6 p7 p8 p9) [⟨.Name x px,iter,[],0⟩] scope gpos] env)).any (·.1) = false := by
  rw [zao hstG,zav,List.any_cons]; rfl
 refine zb8 rfl hl (by simp) hany ?_
 refine (zab hsep).ev n cf A env F s ρ ad m cm H _ e3 _ _ fun v F0 s0 st0 q0 => ?_
 have q0 := q0.brep
 obtain ⟨t0,rfl,p0',z0⟩ := BRep.str_inv (l := lsep) q0
 have H0 := H.step st0
 refine GM.join ?_
 refine Calls.callWith_builtin hany ?_
 rw [zao hstG,zav]
 refine Calls.evalArgs_plain (Calls.spliced_cons ?_)
 have hclos : closureFor scope env = pure [] := closureFor_none hfree
 have hroom : A.depth < recursionLimit := Nat.lt_of_le_of_lt (Nat.le_add_right _ _) (Nat.lt_trans H.bud.dp (by decide))
 refine wpAny_GeneratorExp_walksQD H.bud.hd hco hclos hcell h0 hx hkind hroom ?_ (hs env)
 refine hi n cf A env F0 s0 ρ ad m cm H0 l f1 _ _ fun I F1 s1 fp wr P St J => ?_
 have ok := H.ok
 have w1 := J.st.wd
 refine ⟨w1.lim ok, ?_⟩
 obtain ⟨fc,hhd,tps,gP,htr,_⟩ := G.xget _ _ w1.xi
 rw [hqual]
 refine zk3 hc hhd gP htr fun code h2 tk2 hx2 alt => ?_
 have st2 := zhN G ok w1 tk2 gP hap hx2 alt
 have w2 := st2.wd
 have nP : ∀ {a o},cx.h0.get? a = some o → a ≠ G.Pt → h2.get? a = some o := fun e _ => w2.base _ _ e (G.x0 _ _ e)
 obtain ⟨bm,ob,b1',b2',b3',b4',b5',b6',b7',b8'⟩ := G.blt
 rw [H.env.glob]
 refine wpAny_builtinsFor (s := { s1 with heap := h2,toks := tk2 }) (w2.glob ok) b1' b2' (nP b5' b4') b6' b7' b8' ?_
 have szX : ∀ {b : Addr},b ∈ wr → b ≠ G.Pt := fun hb e => by
  obtain ⟨o,eo⟩ := st0.wd.xex G.Pt G.xp
  rw [← e,(J.new _ hb).1] at eo; injection eo
 have fpX : ∀ {b : Addr},b ∈ fp → b ≠ G.Pt := fun hb e => by
  rcases J.deps _ hb with hb | hb
  ·exact szX hb e
  ·exact w1.nx _ hb (e ▸ G.xp)
 have hst2 : St 0 h2 := (J.W A H.bud.hd).frame _ _ _ J.s0 fun b hb o e => hx2 b o (fpX hb) e
 have hfp : ∀ b ∈ fp,b < h2.objs.size := fun b hb => by
  rcases J.deps _ hb with hb' | hb'
  ·have := J.one _ hb'
   subst this
   obtain ⟨o,T,e,_⟩ := J.ty 0 _ hst2
   exact Heap.lt_size e
  ·obtain ⟨o,e⟩ := w2.lt _ hb'
   exact Heap.lt_size e
 have hcs0 : ∀ {s : Shared} {F : AP},Wd cx F s → ∃ o,s.heap.get? cStatics = some o := fun w => by
  obtain ⟨_,⟨o,_,_,e,_⟩,_⟩ := w.lim ok
  exact ⟨o,e⟩
 have hcw : cStatics ∉ wr := fun hm => by
  obtain ⟨o,e⟩ := hcs0 st0.wd
  rw [(J.new _ hm).1] at e; injection e
 have item : ∀ i v,P i v → ∃ a t,l[i]? = some (.str a) ∧ v = .str ⟨a.toArray⟩ t ∧ noOcc a lb1 = true ∧ noOcc a lb2 = true ∧ ∀ c ∈ a,c < 0x110000 := fun j v hv => by
  obtain ⟨d,hd1,hd2⟩ := J.item j v hv
  obtain ⟨a,rfl,ho1,ho2⟩ := itemStr j d hd1
  cases hd2 with
  | str t p z => exact ⟨a,t,hd1,rfl,ho1,ho2,p⟩
 refine e1_2 ok.nb fun mc nmc nmk => ?_
 refine i8_8 I fp wr l.length P St (fun _ => true) (fun i y => ∃ a t,l[i]? = some (.str a) ∧ y = .str ⟨a.toArray⟩ t ∧ ∀ c ∈ a,c < 0x110000) rfl J.W hst2 hfp (w2.lim ok) hcw (fun href hhref => ⟨?_, ?_⟩) ?_
 ·intro A' E' i v s₂ m₂ hA hD hU hP hn hm hk
  exact wpAny_pure ⟨rfl,⟨s₂.heap,s₂.toks,rfl,fun _ _ e => e⟩⟩
 ·intro A' E' i v s₂ m₂ hA hD hU hP _ hn hm hk
  obtain ⟨a,t,hi,rfl,ho1,ho2,hcs⟩ := item i v hP
  have n1 : s₂.heap.Ns cStatics mc := nmc.at' fun o e => by
   have e2 := w2.base _ o e ok.limx
   exact hk _ (List.mem_range.mpr (Heap.lt_size e2)) hcw o (hhref _ _ e2)
  subst hb1; subst hb2
  refine rep_elt (t := t) (m := m₂) hl1 hl2 ho1 ho2 n1 nmk ?ka ?kb hn hm hd hz hz2 fun k => ?_
  case ka => exact hkind
  case kb => exact hx
  exact ⟨⟨a,t,hi,rfl,hcs⟩,⟨s₂.heap,k,rfl,fun _ _ e => e⟩⟩
 ·intro a h₅ tk gs hgb hag hsz₅ hk₅ W hat
  refine Calls.spliced_nil ?_
  show wpAny _ _ (call (.builtin "str.join") [.str ⟨lsep.toArray⟩ t0,.ref a]) _ _ _
  have e2' : opJoin [.str lsep,.list l] = some res := e2
  unfold opJoin at e2'
  split at e2'
  ·rename_i s' l' ee
   cases ee
   split at e2'
   ·rename_i ls els
    split at e2' <;> (first | (injection e2'; done) | (injection e2' with e2'; subst e2'))
    rename_i hz3
    have hll := zd0 els
    have hn : (passing (fun _ => true) l.length 0) = List.range l.length := zgO _
    refine SC.joinGen W.in4_2 (fun i s' st => st.1.typeIs) hat ?_ List.mem_cons_self (fun j v hv => ?_) (fun s' lt hm hacc => ?_) ?_
    ·intro b hb
     show b < h₅.objs.size
     rw [hsz₅]
     have hag' : h2.objs.size < a := hag
     rcases List.mem_cons.mp hb with rfl | hb
     ·exact Nat.lt_succ_self _
     ·rcases List.mem_cons.mp hb with rfl | hb
      ·exact Nat.lt_succ_of_lt hag'
      ·exact Nat.lt_succ_of_lt (Nat.lt_trans (List.mem_range.mp hb) hag')
    ·obtain ⟨i,_,a,t,_,rfl,_⟩ := hv
     exact ⟨_,_,rfl⟩
    ·have hlen : lt.length = l.length := by
      have := hacc.1
      rw [hn,List.length_range] at this
      simpa [strValues] using this
     have at1 : ∀ j (hj : j < lt.length), ∃ a,ls[j]? = some a ∧ lt[j].1 = ⟨a.toArray⟩ ∧ ∀ c ∈ a,c < 0x110000 := fun j hj => by
      obtain ⟨i,hi,a,t,h1,h2,h3⟩ := hacc.2 j (.str lt[j].1 lt[j].2) (by simp [strValues,List.getElem?_eq_getElem hj])
      rw [hn,List.getElem?_range (hlen ▸ hj)] at hi
      (injection hi with hi; subst hi)
      injection h2 with h21 _
      rw [hll,List.getElem?_map] at h1
      obtain ⟨a',ha',e'⟩ := Option.map_eq_some_iff.mp h1
      cases e'
      exact ⟨a,ha',h21,h3⟩
     have hlsl : ls.length = l.length := by rw [hll,List.length_map]
     have hlt : lt.map (·.1) = ls.map fun x => PySem.Str.mk x.toArray := by
      apply List.ext_getElem?
      intro j
      by_cases hj : j < lt.length
      ·obtain ⟨a,h1,h2,_⟩ := at1 j hj
       rw [List.getElem?_map,List.getElem?_map,h1,List.getElem?_eq_getElem hj]
       simp [h2]
      ·rw [List.getElem?_eq_none (by simpa using hj),List.getElem?_eq_none (by rw [List.length_map,hlsl, ← hlen]; exact Nat.le_of_not_lt hj)]
     have chars : ∀ x ∈ ls, ∀ c ∈ x,c < 0x110000 := fun x hx => by
      obtain ⟨j,hj,e⟩ := List.mem_iff_getElem.mp hx
      obtain ⟨a,h1,_,h3⟩ := at1 j (by rw [hlen, ← hlsl]; exact hj)
      rw [List.getElem?_eq_getElem hj] at h1
      (injection h1 with h1; subst h1)
      rw [← e]; exact h3
     rw [hlt]
     refine ⟨zjy z0 hz3,fun t' k => ?_⟩
     have keep2 : ∀ b o,b ∉ wr → h2.get? b = some o → s'.heap.get? b = some o := fun b o hb e => by
      refine hm.heap b o (fun hmem => ?_) (hk₅ b o e)
      rcases List.mem_cons.mp hmem with rfl | hmem
      ·exact absurd (Heap.lt_size e) (Nat.lt_irrefl _)
      ·exact hb hmem
     have nF : ∀ b,F1 b → b ∉ wr := fun b h hm => (J.new b hm).2 h
     have nXw : ∀ b,cx.X b → b ∉ wr := fun b h hm => by
      obtain ⟨o,eo⟩ := st0.wd.xex b h
      rw [(J.new b hm).1] at eo; injection eo
     have wd' : Wd cx F1 s' := by
      refine ⟨fun a o e nx => keep2 a o (nF a (w2.f0 a o e nx)) (w2.base a o e nx),ok.xi _ _ _ _ w2.xi (fun _ h => h) (fun a o h e => keep2 a o (h.elim (nF a) (nXw a)) e), ?_,w2.f0,fun a h => let ⟨o,e⟩ := w2.lt a h; ⟨o,keep2 a o (nF a h) e⟩,w2.nx,fun a h => let ⟨o,e⟩ := w2.xex a h; ⟨o,keep2 a o (nXw a h) e⟩⟩
      have g1 : GenOnlyQ s1.gens.size (s1.gens.push gs) s'.gens := hm.gens
      exact g1.bare (PyProof.Rows.AllBare.push (show PyProof.Rows.AllBare s1.gens from w1.gens) hgb)
     have stf : Step cx F0 s0 F1 s' := by
      refine ⟨J.st.sub,J.st.new,fun a o e nx => keep2 a o (fun hm => by rw [(J.new a hm).1] at e; injection e) (hx2 a o (fun e' => nx (e' ▸ G.xp)) (J.st.keep a o e nx)), ?_,wd'⟩
      have o1 : s'.os = s1.os := hm.os
      exact o1.trans J.st.os
     unfold Txt.join
     rw [zdr]
     refine hQ _ F1 _ ((st0.trans stf).toks k) (.val (.str t' (fun c hc => ?_) hz3))
     rcases zf9 hc with hc | ⟨x,hx,hc⟩
     ·exact p0' c hc
     ·exact chars x hx c hc
    ·rw [hn,List.length_range]
     have := J.lim
     rw [sizeLine_eq]
     unfold lim at this
     omega
   ·injection e2'
  ·rename_i hne
   exact (hne _ _ rfl).elim
end
end Mine
end
section
open PySem PySem.Calls PyProof.Rows PySem.Builtin.Str
namespace Mine
section
variable {cx : XCx} {ε : Sc}
theorem zaY {x : Str} {T : String} {pos : Pos} (hk : ε.kinds.lookup x = some .globalImplicit) (hg : cx.mg x = none) (hn : x ≠ "__name__") (hv : bootBuiltins x = some (.type T)) (hd : (x == ("__debug__" : Str)) = false) : Sound cx ε (.Name x pos) (.const (.ty T)) := by
 refine Sound.ofE ?_ fun _ => rfl
 intro n cf A env F s ρ ad m cm H r hr Q E hQ
 replace hr := (zaF _).symm.trans hr
 (injection hr with hr; injection hr with hr z; clear z; subst hr)
 exact zaS H hk hg hn hv hd (hQ _ F s (Step.refl H.wd) (.val (.ty T)))
noncomputable abbrev dead : S := .assert (.const (.bool false))
theorem ex_dead {cf : CfT} {ρ : List Slot} : ex cf dead ρ = none := rfl
theorem zaQ {sts : List Stmt} : SoundSs cx ε sts dead := by
 intro n cf A env F s ρ ad m cm H ρ' o h
 rw [ex_dead] at h; injection h
theorem zdR {f : PySem.Str → PySem.Str → R} : ∀ d ds r,opStr2 f (d :: ds) = some r → ∃ l,d = .str l := by
 intro d ds r h
 obtain ⟨a,b,e,h⟩ := zcN (show two _ (d :: ds) = some r from h)
 obtain ⟨a,e2,_⟩ := Option.bind_eq_some_iff.mp h
 (injection e with e z; subst e z)
 exact ⟨a,zbF e2⟩
theorem zk5 : ∀ d ds r,opFind4 (d :: ds) = some r → ∃ l,d = .str l := by
 intro d ds r h
 cases d <;> first | exact ⟨_,rfl⟩ | injection h
theorem zgL : ∀ d ds r,opReplace (d :: ds) = some r → ∃ l,d = .str l := by
 intro d ds r h
 obtain ⟨a,b,c,e,_⟩ := zfc h
 (injection e with e z; subst e z)
 exact ⟨a,rfl⟩
theorem zkZ : ∀ d ds r,opJoin (d :: ds) = some r → ∃ l,d = .str l := by
 intro d ds r h
 cases d <;> first | exact ⟨_,rfl⟩ | injection h
theorem ziJ : ∀ d ds r,opSplit (d :: ds) = some r → ∃ l,d = .str l := by
 intro d ds r h
 cases d <;> first | exact ⟨_,rfl⟩ | injection h
section
variable {o : Expr} {apos pos : Pos} {es : List Expr} {xo x : X}
theorem zjm (hl : (apos.endLine == pos.line) = true) (hb : plainBase o = true) (hn : es.length < 30) (h0 : Sound cx ε o xo) (h : SoundL cx ε es x false) : Sound cx ε (.Call (.Attribute o "rfind" apos) es [] pos) (.op .rfind (.cons xo x)) :=
 zaL hb hl hn PySem.F.slot_str_rfind rfl h0 h (by intro d ds r h; delta opF at h; dsimp only at h; exact zdR d ds r h) zkA
theorem zdF (hl : (apos.endLine == pos.line) = true) (hb : plainBase o = true) (hn : es.length < 30) (h0 : Sound cx ε o xo) (h : SoundL cx ε es x false) : Sound cx ε (.Call (.Attribute o "startswith" apos) es [] pos) (.op .startswith (.cons xo x)) :=
 zaL hb hl hn PySem.F.slot_str_startswith rfl h0 h (by intro d ds r h; delta opF at h; dsimp only at h; exact zdR d ds r h) zfm
theorem zh7 (hl : (apos.endLine == pos.line) = true) (hb : plainBase o = true) (hn : es.length < 30) (h0 : Sound cx ε o xo) (h : SoundL cx ε es x false) : Sound cx ε (.Call (.Attribute o "endswith" apos) es [] pos) (.op .endswith (.cons xo x)) :=
 zaL hb hl hn PySem.F.slot_str_endswith rfl h0 h (by intro d ds r h; delta opF at h; dsimp only at h; exact zdR d ds r h) zgP
theorem zkU (hl : (apos.endLine == pos.line) = true) (hb : plainBase o = true) (hn : es.length < 30) (h0 : Sound cx ε o xo) (h : SoundL cx ε es x false) : Sound cx ε (.Call (.Attribute o "rstrip" apos) es [] pos) (.op .rstrip (.cons xo x)) :=
 zaL hb hl hn PySem.F.slot_str_rstrip rfl h0 h (by intro d ds r h; delta opF at h; dsimp only at h; exact zdR d ds r h) zi1
theorem m_find (hl : (apos.endLine == pos.line) = true) (hb : plainBase o = true) (hn : es.length < 30) (h0 : Sound cx ε o xo) (h : SoundL cx ε es x false) : Sound cx ε (.Call (.Attribute o "find" apos) es [] pos) (.op .find4 (.cons xo x)) :=
 zaL hb hl hn PySem.F.slot_str_find rfl h0 h (fun d ds r h => zk5 d ds r h) zkE
theorem zjn (hl : (apos.endLine == pos.line) = true) (hb : plainBase o = true) (hn : es.length < 30) (h0 : Sound cx ε o xo) (h : SoundL cx ε es x false) : Sound cx ε (.Call (.Attribute o "replace" apos) es [] pos) (.op .replace (.cons xo x)) :=
 zaL hb hl hn PySem.F.slot_str_replace rfl h0 h (fun d ds r h => zgL d ds r h) zh2
theorem zjo (hl : (apos.endLine == pos.line) = true) (hb : plainBase o = true) (hn : es.length < 30) (h0 : Sound cx ε o xo) (h : SoundL cx ε es x false) : Sound cx ε (.Call (.Attribute o "join" apos) es [] pos) (.op .join (.cons xo x)) :=
 zaL hb hl hn PySem.F.slot_str_join rfl h0 h (fun d ds r h => zkZ d ds r h) op_join
theorem zft (hl : (apos.endLine == pos.line) = true) (hb : plainBase o = true) (hn : es.length < 30) (h0 : Sound cx ε o xo) (h : SoundL cx ε es x false) : Sound cx ε (.Call (.Attribute o "split" apos) es [] pos) (.op .split (.cons xo x)) :=
 zaL hb hl hn PySem.F.slot_str_split rfl h0 h (fun d ds r h => ziJ d ds r h) zkz
end
end
noncomputable def nthBody (p : Program) (n : Nat) : List Stmt := match p.main.body[n]? with
 | some (.FunctionDef _ _ b _ _ _ _ _ _ _) => b
 | _ => []
set_option genInjectivity false in
structure GN (cx : XCx) (fs : List (Str × Nat)) (bs : List Str) : Prop where
 f : ∀ x i,(x,i) ∈ fs → cx.mg x = some (.ref (cx.fa i))
 b : ∀ x,x ∈ bs → cx.mg x = none
theorem GN.fi {cx : XCx} {fs : List (Str × Nat)} {bs : List Str} (N : GN cx fs bs) (i : Nat) {x : Str} {a : Nat} (h : fs[i]? = some (x,a)) : cx.mg x = some (.ref (cx.fa a)) := N.f _ _ (List.mem_of_getElem? h)
theorem GN.bi {cx : XCx} {fs : List (Str × Nat)} {bs : List Str} (N : GN cx fs bs) (i : Nat) {x : Str} (h : bs[i]? = some x) : cx.mg x = none := N.b _ (List.mem_of_getElem? h)
theorem nfree {ks : List (Str × NameKind)} {x : Str} {k : NameKind} (h : ks.lookup x = some k) (hk : k ≠ .free := by decide) : ks.lookup x ≠ some .free := by
 rw [h]; intro e; (injection e with e; subst e); exact hk rfl
theorem zbV {is : List Nat} (h : is.length = 1 := by rfl) : ∀ d ds,one1 d = some ds → ds.length = is.length := by
 intro d ds e; (injection e with e; subst e); exact h.symm
theorem two_len {is : List Nat} (h : is.length = 2 := by rfl) : ∀ d ds,two2 d = some ds → ds.length = is.length := by
 intro d ds e
 unfold two2 at e
 split at e <;> (first | (injection e; done) | (injection e with e; subst e))
 exact h.symm
noncomputable def compOKb (ε : Sc) (scope : Scope) (xs : List Str) (is : List Nat) : Bool :=
 (scope.kind == .function) && scope.names.all (fun y => y.2 != .cell) && scope.names.all (fun y => y.2 != .local || scope.names.lookup y.1 == some .local) && xs.all (fun x => scope.names.lookup x == some .local)
  && scope.names.all (fun y => y.2 != .free || ((ε.vars.lookup y.1).isSome && ε.kinds.lookup y.1 != some .local)) && ε.vars.all (fun y => !is.contains y.2) && decide xs.Nodup && decide is.Nodup && decide (xs.length = is.length)
theorem za3 {ε : Sc} {scope : Scope} {xs : List Str} {is : List Nat} (h : compOKb ε scope xs is = true) : CompOK ε scope xs is := by
 unfold compOKb at h
 simp only [Bool.and_eq_true,decide_eq_true_eq,List.all_eq_true,Bool.or_eq_true,bne_iff_ne,beq_iff_eq,Bool.not_eq_true',ne_eq] at h
 obtain ⟨⟨⟨⟨⟨⟨⟨⟨h1,h2⟩,h3⟩,h4⟩,h5⟩,h6⟩,h7⟩,h8⟩,h9⟩ := h
 refine ⟨h1,h2,fun y hy e => (h3 y hy).elim (fun q => absurd e q) id,h4,fun y k hy e => ?_,fun y j hj hm => ?_,h7,h8,h9⟩
 ·rcases h5 (y,k) hy with q | ⟨q1,q2⟩
  ·exact absurd e q
  ·exact ⟨Option.isSome_iff_exists.mp q1,q2⟩
 ·have := h6 (y,j) (zbg hj)
  rw [List.contains_iff_mem.mpr hm] at this
  injection this
theorem zll {x : Str} {p : Pos} : (Expr.Name x p).pos = p := rfl
theorem pos_lc {e : Expr} {g : List Comprehension} {c : Scope} {p : Pos} : (Expr.ListComp e g c p).pos = p := rfl
theorem pos_tu {l : List Expr} {k : Nat} {p : Pos} : (Expr.Tuple l k p).pos = p := rfl
theorem kindOf_ε {env : Env} {ks : List (Str × NameKind)} (h : env.scope.names = ks) (x : Str) : env.kindOf x = ks.lookup x := by unfold Env.kindOf; rw [h]
theorem swapC {ks : List (Str × NameKind)} {elt : Expr} {gens : List Comprehension} {scope : Scope} {pos py : Pos} {y : Str} {line : Nat} (hk : ks.lookup y = some .local) (hp : (py.line == pos.line) = true) (ha : (scope.names.any fun (n,k) => n == y && (k == .local || k == .cell)) = false) :
  ∀ env : Env,env.scope.kind = .function → env.scope.names = ks → swapsWith (.ListComp elt gens scope pos) (some (.Name y py)) line env = pure true := by
 intro env h1 h2
 unfold swapsWith
 have hb : (env.blockKind == .function) = true := by unfold Env.blockKind; rw [h1]; rfl
 simp only [kindOf_ε h2,hk,hb,zll,pos_lc,hp,ha]
 rfl
theorem zhP {ks : List (Str × NameKind)} {elt : Expr} {gens : List Comprehension} {scope : Scope} {pos py : Pos} {y : Str} {line : Nat} (hk : ks.lookup y = some .cell) :
  ∀ env : Env,env.scope.kind = .function → env.scope.names = ks → swapsWith (.ListComp elt gens scope pos) (some (.Name y py)) line env = pure false := by
 intro env h1 h2
 unfold swapsWith
 have e : ((some NameKind.cell : Option NameKind) == some NameKind.local) = false := rfl
 simp only [kindOf_ε h2,hk,e,Bool.and_false,Bool.false_and]
theorem zhi {ks : List (Str × NameKind)} {x y : Str} {p p' pos' posv : Pos} {k kv : Nat} {v1 v2 : Expr} (hx : ks.lookup x = some .local) (hy : ks.lookup y = some .local) (hp : (p'.line == p.line) = true)
  (hs1 : starred v1 = false) (hs2 : starred v2 = false) (hd : ([x,y].eraseDups.length != 2) = false) (hf : [v1,v2].all (foldedForSure 8) = false) (hc : [v1,v2].all (constantsAlone 8) = false) :
  ∀ env : Env,env.scope.kind = .function → env.scope.names = ks → swappedStores [.Tuple [.Name x p,.Name y p'] k pos'] (.Tuple [v1,v2] kv posv) env = pure (some [x,y]) := by
 intro env h1 h2
 have hb : (env.blockKind != .function) = false := by unfold Env.blockKind; rw [h1]; rfl
 unfold swappedStores
 have hp0 : (p.line == p.line) = true := beq_self_eq_true _
 have el : ((some NameKind.local : Option NameKind) == some NameKind.local) = true := rfl
 have hst : ∀ v : Expr,starred v = false → (match v with | .Starred .. => true | _ => false) = false := fun v h => by
  cases v <;> first | rfl | injection h
 simp only [List.length_cons,List.length_nil,List.head?_cons,Option.map_some,Option.getD_some,zll,pos_tu,List.filterMap_cons,List.filterMap_nil,kindOf_ε h2,hx,hy,hp,hp0,el,Bool.and_self,if_true,hb,hf,hc,Bool.or_false]
 simp only [Nat.zero_add,Nat.reduceAdd,hd]
 have h3 : ([v1,v2].any fun x => match x with | .Starred .. => true | _ => false) = false := by
  simp only [List.any_cons,List.any_nil,Bool.or_false,hst v1 hs1,hst v2 hs2]
 exact (if_neg Bool.false_ne_true).trans ((if_neg fun q => Bool.false_ne_true (h3.symm.trans q)).trans rfl)
theorem apart1 {cx : XCx} {G : LamG cx} {p0 : Pos} {q0 : PySem.Str} {g : Pos} (h : G.qs = [(p0,q0)]) (ha : (p0.line != g.line || p0.col != g.col) = true) : ∀ p q,(p,q) ∈ G.qs → p.line ≠ g.line ∨ p.col ≠ g.col := by
 intro p q hm
 rw [h] at hm
 cases List.mem_singleton.mp hm
 simpa using ha
end Mine
end
section
open PySem PySem.Calls PyProof.Rows PySem.Builtin.Str PySem.W
namespace Mine
section
variable {cx : XCx}
theorem len1 {P : List Value → Prop} (h : ∀ a,P [a]) (vs : List Value) (e : vs.length = 1) : P vs := by
 obtain ⟨a,rfl⟩ := List.length_eq_one_iff.mp e
 exact h a
theorem len2 {P : List Value → Prop} (h : ∀ a b,P [a,b]) (vs : List Value) (e : vs.length = 2) : P vs := by
 cases vs with
 | nil => injection e
 | cons a t => exact len1 (P := fun t => P (a :: t)) (h a) t (Nat.succ.inj e)
theorem len3 {P : List Value → Prop} (h : ∀ a b c,P [a,b,c]) (vs : List Value) (e : vs.length = 3) : P vs := by
 cases vs with
 | nil => injection e
 | cons a t => exact len2 (P := fun t => P (a :: t)) (h a) t (Nat.succ.inj e)
theorem len4 {P : List Value → Prop} (h : ∀ a b c d,P [a,b,c,d]) (vs : List Value) (e : vs.length = 4) : P vs := by
 cases vs with
 | nil => injection e
 | cons a t => exact len3 (P := fun t => P (a :: t)) (h a) t (Nat.succ.inj e)
theorem zat {fd : FuncData} {fn : Fn} {ps : List Str} (hva : fn.va = false) (h : ∀ vs : List Value,vs.length = fn.np → bindArgs fd ⟨vs,[]⟩ = pure (ps.zip vs)) : BindOK cx fd fn ps := by
 intro A F s vs args ds ok w q hb Q E hQ
 unfold boundTo at hb
 rw [hva] at hb
 simp only [Bool.false_eq_true,if_false] at hb
 split at hb <;> (first | (injection hb; done) | (injection hb with hb; subst hb))
 rename_i hl
 rw [h vs (q.length.trans hl)]
 exact wpAny_pure (hQ F s vs (Step.refl w) q)
theorem zj9 {fd : FuncData} {fn : Fn} {x y : Str} (hva : fn.va = true) (hnp : fn.np = 1) (hbd : ∀ v r,bindArgs fd ⟨v :: r,[]⟩ = (do let t ← newTuple r; pure [(x,v),(y,t)])) : BindOK cx fd fn [x,y] := by
 intro A F s vs args ds ok w q hb Q E hQ
 unfold boundTo at hb
 rw [hva,hnp] at hb
 simp only [if_true] at hb
 split at hb <;> (first | (injection hb; done) | (injection hb with hb; subst hb))
 rename_i hl
 cases q with
 | nil => simp at hl
 | @cons v vs d ds hv hvs =>
  rw [hbd]
  have hz : vs.length ≤ lim := by
   rw [hvs.length]
   have := hl.2
   rw [List.length_cons] at this
   omega
  refine wb (wpAny_newTuple ?_ (zaB hz))
  refine wpAny_pure ?_
  obtain ⟨F3,st3,r⟩ := zfl ok w s.toks hz hvs
  exact hQ F3 _ [v,_] st3 (.cons (st3.rep w hv) (.cons r .nil))
end
noncomputable def fnOKb (ε : Sc) (fn : Fn) (ps : List Str) : Bool :=
 decide (ps.length = fn.np + (if fn.va then 1 else 0)) && decide ps.Nodup && (ps.zipIdx.all fun y => ε.vars.lookup y.1 == some y.2) && (ε.vars.all fun y => ε.kinds.lookup y.1 == some .local || ε.kinds.lookup y.1 == some .cell) && decide (ε.vars.map (·.2)).Nodup
theorem zi8 {l : List (Str × Nat)} (h : (l.map (·.2)).Nodup) {x y : Str} {i : Nat} (h1 : (x,i) ∈ l) (h2 : (y,i) ∈ l) : x = y := by
 induction l with
 | nil => cases h1
 | cons z r ih =>
  rw [List.map_cons] at h
  obtain ⟨n1,n2⟩ := List.nodup_cons.mp h
  rcases List.mem_cons.mp h1 with e1 | h1
  ·rcases List.mem_cons.mp h2 with e2 | h2
   ·rw [← e2] at e1; exact congrArg Prod.fst e1
   ·exact (n1 (List.mem_map.mpr ⟨_,h2,by rw [← e1]⟩)).elim
  ·rcases List.mem_cons.mp h2 with e2 | h2
   ·exact (n1 (List.mem_map.mpr ⟨_,h1,by rw [← e2]⟩)).elim
   ·exact ih n2 h1 h2
theorem FnIs.ofK {cx : XCx} {K : Frag} (X : K.In cx.h0) {ε : Sc} {i : Nat} {a : Addr} {fn : Fn} {body : List Stmt} {ps : List Str} {oc : Value} {od : Option Addr} {osl : Array (Option Value)} {name : Str} {params : Arguments} {scope : Scope} {dV kV doc pm ct : Value} {c : Addr} {an : Option Addr}
  (ha : cx.fa i = a) (nx : ¬ cx.X a) (ho : K.lookup a = some ⟨oc,od,.func (fnOf name name params body scope dV kV doc pm an (.ref c) ct),osl⟩) (hcd : codeIn K (.ref c) name = true) (ncx : ¬ cx.X c) (hc : ∀ c' q,ε.code = some (c',q) → (.ref c : Value) = .ref c' ∧ name ++ ".<locals>." = q)
  (hb : BindOK cx (fnOf name name params body scope dV kV doc pm an (.ref c) ct) fn ps) (names : scope.names = ε.kinds) (co : scope.isCoroutine = false) (gen : scope.isGenerator = false) (kind : scope.kind = .function) (h : fnOKb ε fn ps = true) (htop : ε.top = false := by rfl) :
  FnIs cx ε i fn (fnOf name name params body scope dV kV doc pm an (.ref c) ct) body ps := by
 unfold fnOKb at h
 simp only [Bool.and_eq_true,decide_eq_true_eq,List.all_eq_true,Bool.or_eq_true,beq_iff_eq] at h
 obtain ⟨⟨⟨⟨h1,h2⟩,h3⟩,h4⟩,h5⟩ := h
 refine ⟨⟨_,by rw [ha]; exact X _ _ ho,rfl⟩,by rw [ha]; exact nx,⟨c,rfl,ncx,codeRec_of X hcd⟩,rfl,hc,rfl,rfl,rfl,co,gen,kind,names,hb,fun args ds e => ?_,h2,fun k x e => ?_,fun x j e => h4 (x,j) (zbg e),⟨fun x y i ex ey => zi8 h5 (zbg ex) (zbg ey)⟩,htop⟩
 ·unfold boundTo at e
  split at e
  ·rename_i hva
   split at e <;> (first | (injection e; done) | (injection e with e; subst e))
   rename_i hl
   rw [h1,if_pos hva,List.length_append,List.length_take,List.length_singleton,Nat.min_eq_left hl.1]
  ·rename_i hva
   split at e <;> (first | (injection e; done) | (injection e with e; subst e))
   rename_i hl
   rw [h1,if_neg hva,hl]; rfl
 ·have : (x,k) ∈ ps.zipIdx := List.mem_zipIdx_iff_getElem?.mpr (by simpa using e)
  exact h3 _ this
noncomputable abbrev mkCx (prog : Program) (w : World) (h₁ : Heap) (c P : Addr) (qs : List (Pos × PySem.Str)) (mg mb : SV) (fa : NAd) (T : NAd) : XCx :=
 {prog := prog,w := w,h0 := ghostOf h₁ [(c,P)],X := fun a => a = P,XI := fun _ => True,T := T,mg := mg,mb := mb,fa := fa,XF := TabXF c P qs }
section
variable {prog : Program} {w : World} {h₁ : Heap} {c P : Addr} {qs : List (Pos × PySem.Str)} {mg mb : SV} {fa : NAd} {p : Program} {loose : List Str} {mean : ExcName → Option Value} {K : Frag}
theorem zig (c : Addr) : (ghostOf h₁ [(c,P)]).get? P = none := hideAll_none _ (by simp)
theorem zcC {a : Addr} {o : Obj} (e : (ghostOf h₁ [(c,P)]).get? a = some o) : a ≠ P := fun q => by rw [q,zig c] at e; injection e
theorem zhz {a : Addr} {o : Obj} (e : (ghostOf h₁ [(c,P)]).get? a = some o) : h₁.get? a = some o := of_hideAll _ e
theorem ns_at {h : Heap} {a : Addr} {m : SV} (x : h.Ns a m) : ∃ o,h.get? a = some o := let ⟨o,_,_,e,_⟩ := x; ⟨o,e⟩
theorem zif (hT : TabsAt [(c,P)] h₁) (N : h₁.NoSeer) : (ghostOf h₁ [(c,P)]).NoSeer where
 statics := let ⟨mc,a,b⟩ := N.statics; ⟨mc,ghost_ns hT a,b⟩
 mods := let ⟨mc,a,b⟩ := N.mods; ⟨mc,ghost_ns hT a,b⟩
 imp := let ⟨mc,a,b⟩ := N.imp; ⟨mc,ghost_ns hT a,b⟩
 main := let ⟨mg,bm,ob,a,b,c,d,e⟩ := N.main; ⟨mg,bm,ob,ghost_ns hT a,b,ghost_get hT c (fun q => by rw [q] at d; injection d),d,e⟩
theorem ns_none {K : Frag} {h : Heap} {a : Addr} {m : SV} {n : Str} (X : K.In h) (G : h.Ns a m) (e : nsIn K a n = some none) : m n = none := by
 obtain ⟨o,es,ep,ho,hd,_,hf⟩ := G
 unfold nsIn at e
 split at e
 ·rename_i c d es' n' sl q
  have := X _ _ q
  rw [ho] at this
  (injection this with this; subst this)
  cases hd
  split at e
  ·(injection e with e; injection e)
  ·rename_i he
   rw [← hf]
   unfold nsFind findBy
   rw [← Array.find?_toList,he]
   rfl
 ·injection e
theorem cxOk_of (hT : TabsAt [(c,P)] h₁) (X : K.In (ghostOf h₁ [(c,P)])) (T1 : Top p loose mean mg mb h₁) (hi : importsNone p = true) (htree : prog.given.tree = none) (hnb : nsIn K cStatics sharingNotToldKey = some none) {T : NAd} (tinj : ∀ i j,T i = T j → i = j) :
  CxOk (mkCx prog w h₁ c P qs mg mb fa T) := by
 have nP : ∀ {a : Addr} {m : SV},(ghostOf h₁ [(c,P)]).Ns a m → ¬ a = P := fun x => let ⟨_,e⟩ := ns_at x; zcC e
 have g := ghost_ns hT T1.g
 have b := ghost_ns hT T1.b
 obtain ⟨mc,s1,s2⟩ := T1.nolimit
 have s := ghost_ns hT s1
 exact ⟨fun F F' h h' x hF hk => x.mono hF hk,g,nP g,b,nP b,T1.builtins,⟨mc,s,s2⟩,nP s,fun h hk => (zif hT (T1.seer hi)).keeps fun a o e => hk a o e (zcC e),htree,⟨mc,s,ns_none X s hnb⟩,tinj⟩
theorem wd_of (hT : TabsAt [(c,P)] h₁) {s : Shared} (hs : s.heap = h₁) (hg : s.gens = #[]) {T : NAd} : Wd (mkCx prog w h₁ c P qs mg mb fa T) (fun a => ∃ o,(ghostOf h₁ [(c,P)]).get? a = some o) s := by
 subst hs
 obtain ⟨hc,ht⟩ := hT _ List.mem_cons_self
 have C := (ghost_code hT).1
 refine ⟨fun a o e _ => zhz e,⟨?_,hc, #[],ht,trivial,fun pos q _ cv e => by injection e⟩,by rw [hg]; intro g h; simp at h,fun a o e _ => ⟨o,e⟩,fun a ⟨o,e⟩ => ⟨o,zhz e⟩,fun a ⟨o,e⟩ => zcC e,fun a e => by subst e; exact ⟨_,ht⟩⟩
 obtain ⟨o,_,_,_,_,_,_,_,_,e,_⟩ := C
 exact ⟨o,e⟩
noncomputable def lamG_of (hT : TabsAt [(c,P)] h₁) (T1 : Top p loose mean mg mb h₁) {T : NAd} (hq : qs.Pairwise fun a b => a.1.line ≠ b.1.line ∨ a.1.col ≠ b.1.col) : LamG (mkCx prog w h₁ c P qs mg mb fa T) :=
 {c := c,Pt := P,qs := qs,xget := fun _ _ h => h,xset := fun _ _ _ _ _ _ _ h => h,xp := rfl,x0 := fun a o e => zcC e,apart := hq,blt := by
   obtain ⟨bm,ob,b1,b2,b3,b4,b5,b6⟩ := T1.bmain
   have gb : (ghostOf h₁ [(c,P)]).get? bm = some ob := ghost_get hT b3 fun q => by rw [q] at b4; injection b4
   refine ⟨bm,ob,b1,b2,fun e => ?_,zcC gb,gb,b4,b5,b6⟩
   obtain ⟨o,es,ep,ho,hd,_⟩ := T1.g
   rw [e,ho] at b3
   cases b3
   rw [hd] at b6; injection b6 }
noncomputable def tabKeys (es : Array DictEntry) : Bool := es.toList.all fun e => match e.key with | .int k _ => e.hash == hashInt k | _ => false
noncomputable def tabVals (es : Array DictEntry) : Bool := (List.range 128).all fun c => match findBy Value.isInt es (c : Int) with
 | some (.str x _) => special.contains c && x == ⟨#[92,c]⟩
 | none => !special.contains c
 | _ => false
theorem tabG_of {cx : XCx} (X : K.In cx.h0) {d : Addr} {es : Array DictEntry} {n : Nat} (nx : ¬ cx.X d) (hl : K.lookup d = some ⟨.type "dict",none,.dict es n, #[]⟩) (sys : (d == sysModules) = false) (hk : tabKeys es = true) (hv : tabVals es = true) : ∃ G : TabG cx,G.d = d := by
 unfold tabKeys at hk
 rw [List.all_eq_true] at hk
 unfold tabVals at hv
 rw [List.all_eq_true] at hv
 refine ⟨{ d := d,f := fun k => findBy Value.isInt es k,nx := nx,hm := ⟨_,es,n,X _ _ hl,⟨rfl,rfl,rfl⟩,rfl,fun e he => ?_,fun _ => rfl⟩,sys := sys,yes := fun c hc hs => ?_,no := fun c hc hs => ?_ },rfl⟩
 ·have := hk e (Array.mem_toList_iff.mpr he)
  split at this
  ·rename_i k t e1
   exact ⟨k,by rw [e1]; simp [intKind,Value.isInt],(by simpa using this : e.hash = hashInt k)⟩
  ·injection this
 ·have := hv c (List.mem_range.mpr hc)
  split at this
  ·rename_i x t e1
   simp only [Bool.and_eq_true,beq_iff_eq] at this
   exact ⟨t,by rw [e1,this.2]⟩
  ·rw [hs] at this; injection this
  ·injection this
 ·have := hv c (List.mem_range.mpr hc)
  split at this
  ·rw [hs] at this; injection this
  ·assumption
  ·injection this
end

theorem repInts {T T' : NAd} {F F' : AP} {h : Heap} (hF : ∀ a,F a → F' a) {ns : List Int} : ∀ {vs : List Value},RepL T F h vs (ns.map .int) → RepL T' F' h vs (ns.map .int) := by
 induction ns with
 | nil => intro vs q; cases q; exact .nil
 | cons i ns ih =>
  intro vs q
  cases q with
  | cons a r =>
   generalize hd : D.int i = d at a
   cases a <;> (first | (injection hd; done) | (injection hd with hd; subst hd))
   exact .cons (.int _ _) (ih r)
theorem ziV {T T' : NAd} {F F' : AP} {h : Heap} (hF : ∀ a,F a → F' a) {ns : List Int} {v : Value} (r : Rep T F h v (.list (ns.map .int))) : Rep T' F' h v (.list (ns.map .int)) := by
 cases r with
 | list f g z q => exact .list (hF _ f) g z (repInts hF q)
theorem Frm.retok {cx : XCx} {T' : NAd} {X' : AP} {XF' : (Addr → Prop) → Heap → Prop} {ck : (Nat → List D → Option D) → Prop} {ε : Sc} {env : Env} {F : AP} {s : Shared} {ρ ρ' : List Slot} {ad : NAd} {m cm : SV} (w : Wd cx F s) (f : Frm cx ε env F s ρ ad m cm)
  (hX : ∀ a,cx.X a → X' a) (hX' : ∀ a,X' a → cx.X a ∨ (¬ F a ∧ ¬ Mut env ρ ad a ∧ ∃ o,s.heap.get? a = some o)) (xi : XF' (fun a => F a ∨ ∃ j l,slotAt ρ j = .own l ∧ a = ad j) s.heap)
  (h : ∀ j,(∃ k,slotAt ρ j = .own [.str (tokC k)] ∧ slotAt ρ' j = .val (.tok k) ∧ T' k = ad j) ∨ ((slotAt ρ j = .unset ∨ ∃ ns : List Int,slotAt ρ j = .val (.list (ns.map .int))) ∧ slotAt ρ' j = slotAt ρ j)) :
  Wd { cx with T := T',X := X',XF := XF',cok := ck } (fun a => F a ∨ ∃ j l,slotAt ρ j = .own l ∧ a = ad j) s ∧ Frm { cx with T := T',X := X',XF := XF',cok := ck } ε env (fun a => F a ∨ ∃ j l,slotAt ρ j = .own l ∧ a = ad j) s ρ' ad m cm := by
 have hsub : ∀ a,F a → (F a ∨ ∃ j l,slotAt ρ j = .own l ∧ a = ad j) := fun _ h => .inl h
 have mutX : ∀ a,Mut env ρ ad a → ¬ X' a := fun a h q => (hX' a q).elim (f.notF h).2 fun q => q.2.1 h
 have noOwn : ∀ j l,slotAt ρ' j ≠ .own l := fun j l e => by
  rcases h j with ⟨k,_,e2,_⟩ | ⟨e1,e2⟩
  ·rw [e2] at e; injection e
  ·rw [e2] at e
   rcases e1 with e1 | ⟨ns,e1⟩ <;> rw [e1] at e <;> injection e
 have slots : ∀ j ov,SlotRep cx F s.heap ad j ov (slotAt ρ j) → SlotRep { cx with T := T',X := X',XF := XF',cok := ck } (fun a => F a ∨ ∃ j l,slotAt ρ j = .own l ∧ a = ad j) s.heap ad j ov (slotAt ρ' j) := by
  intro j ov q
  rcases h j with ⟨k,e1,e2,e3⟩ | ⟨e1,e2⟩
  ·rw [e2]
   generalize hsl : slotAt ρ j = sl at q
   rw [e1] at hsl
   subst hsl
   cases q with
   | dic _ _ _ _ q _ _ =>
    cases q
   | own nf nx g z q =>
    cases q with
    | cons q1 q2 =>
     cases q2
     cases q1 with
     | str t p z' =>
      rw [← e3]
      exact .val (Rep.tok (T := T') (k := k) fun _ => ⟨.inr ⟨j,_,e1,e3⟩,_,_,e3 ▸ g⟩)
  ·rw [e2]
   rcases e1 with e1 | ⟨ns,e1⟩
   ·rw [e1]; exact .unset
   ·rw [e1] at q ⊢
    cases q with
    | val q => exact .val (ziV hsub q)
 refine ⟨⟨fun a o e nx => w.base a o e fun q => nx (hX a q),xi,w.gens,fun a o e nx => .inl (w.f0 a o e fun q => nx (hX a q)),fun a h => ?_,fun a h => ?_,fun a q => (hX' a q).elim (w.xex a) fun q => q.2.2⟩,
  ⟨⟨f.en.kind,f.en.names,f.en.glob,f.en.blt,f.en.code,mutX _ (.inl rfl),fun n c hc => mutX c (.inr (.inl ⟨n,hc⟩)),f.en.ns,f.en.cells,fun y j hy => (f.en.vars y j hy).imp (fun ⟨k,q⟩ => ⟨k,slots j _ q⟩) fun ⟨k,c,q⟩ => ⟨k,c,slots j _ q⟩⟩,
   fun h => ?_,fun n c hc => ⟨fun h => ?_,(f.cf n c hc).2⟩,f.cinj,fun i j l _ e => absurd e (noOwn i l),fun i l e => absurd e (noOwn i l)⟩⟩
 ·rcases h with h | ⟨j,l,e,rfl⟩
  ·exact w.lt a h
  ·exact (f.own j l e).2.2.1
 ·rcases h with h | ⟨j,l,e,rfl⟩
  ·exact fun q => (hX' a q).elim (w.nx a h) fun q => q.1 h
  ·exact mutX _ (.inr (.inr ⟨j,l,e,rfl⟩))
 ·rcases h with h | ⟨j,l,e,q⟩
  ·exact f.lf h
  ·exact (f.own j l e).2.2.2.1 q.symm
 ·rcases h with h | ⟨j,l,e,q⟩
  ·exact (f.cf n c hc).1 h
  ·exact (f.own j l e).2.2.2.2 n (q ▸ hc)
noncomputable abbrev XCx.withT (cx : XCx) (T : NAd) : XCx := { cx with T := T }
noncomputable def PlainRho (ρ : List Slot) : Prop := ∀ j,slotAt ρ j = .unset ∨ ∃ ns : List Int,slotAt ρ j = .val (.list (ns.map .int))
noncomputable def Inj (T : NAd) : Prop := ∀ i j,T i = T j → i = j
noncomputable abbrev newTok (i : Nat) (k : Nat) : S := .assignO i (.list (.cons (.const (.str (tokC k))) .nil))
theorem zjW {cf : CfT} {i k : Nat} {ρ : List Slot} (h : noApp i ρ = true) (hd : dSlot i = false) : ex cf (newTok i k) ρ = some (ρ.set i (.own [.str (tokC k)]),.next) := by
 unfold newTok
 rw [zcU,h,if_pos rfl]
 exact if_neg (by rw [hd]; exact Bool.false_ne_true)
theorem zb9 {β : Type} {p : Nat → Bool} {x : Nat} {j : β} : ∀ {l : List (Nat × β)},(l.filter fun y => p y.1).lookup x = some j → l.lookup x = some j ∧ p x = true
 | [],e => by injection e
 | (y,b) :: r,e => by
  rw [List.filter_cons] at e
  split at e
  ·rename_i hp
   rw [List.lookup_cons] at e ⊢
   cases hx : x == y with
   | true =>
    rw [hx] at e
    exact ⟨e,by rw [beq_iff_eq.mp hx]; exact hp⟩
   | false =>
    rw [hx] at e
    exact zb9 e
  ·rename_i hp
   obtain ⟨h1,h2⟩ := zb9 e
   refine ⟨?_,h2⟩
   rw [List.lookup_cons]
   cases hx : x == y with
   | true => rw [beq_iff_eq.mp hx] at h2; exact absurd h2 hp
   | false => exact h1
noncomputable abbrev dropK (P : Addr) (K : Frag) : Frag := K.filter fun y => (fun a : Nat => a != P) y.1
theorem zgb {K : Frag} {h₁ : Heap} {c P : Addr} (X : K.In h₁) : (dropK P K).In (ghostOf h₁ [(c,P)]) := fun a o e => by
 obtain ⟨h1,h2⟩ := zb9 (p := fun a : Nat => a != P) e
 exact hideAll_get _ (X a o h1) (by simpa using h2)
theorem gn_of {cx : XCx} {fs : List (Str × Nat)} {bs : List Str} (h1 : ∀ p ∈ fs,cx.mg p.1 = some (.ref (cx.fa p.2))) (h2 : ∀ x ∈ bs,cx.mg x = none) : GN cx fs bs := ⟨fun x i h => h1 (x,i) h,h2⟩
theorem zhy {T : NAd} {F : AP} {h : Heap} : ∀ {vs : List Value} {ns : List Int},IntsAre vs ns → RepL T F h vs (ns.map .int)
 | _,_,.nil => .nil
 | _,_,.cons n t r => .cons (.int n t) (zhy r)
theorem zjI {c P : Addr} {qs : List (Pos × PySem.Str)} {cw : ClaimW} {cl : Str → Option Addr} {mean : ExcName → Option Value} {args : List WData} {s₁ s' : Shared} {F' : AP}
  (hT : TabsAt [(c,P)] s₁.heap) (hr : ∀ x,cw.raises args x = false) (hp : cw.post args (.bool true) args = true) (xi : TabXF c P qs F' s'.heap) (base : ∀ b o,(ghostOf s₁.heap [(c,P)]).get? b = some o → s'.heap.get? b = some o) (gens : GensBare s'.gens) (os : s'.os = s₁.os) : GoodWG cw cl mean args s₁ (.ok (.ret (.bool true))) s' := by
 obtain ⟨hc,ht⟩ := hT _ List.mem_cons_self
 obtain ⟨_,_,ps,hP,_⟩ := xi
 refine ⟨.inl ⟨.bool true,.bool true,[],rfl,hr,.bool true,hp,fun _ => ⟨List.nodup_nil,fun a h => nomatch h⟩⟩,⟨fun b o e => ?_,fun b o e => ?_⟩,os,gens⟩
 ·by_cases hb : b = P
  ·subst hb
   have e2 : o = tabObj #[] := Option.some.inj (e.symm.trans ht)
   subst e2
   exact .inr (.inl ⟨(hc.tab ht).isCodeTable,rfl, #[],ps,rfl,by rw [Array.empty_append]; exact hP⟩)
  ·exact .inl (base b o (ghost_ne e (by simpa using hb)))
 ·by_cases hb : b = P
  ·subst hb
   exact ⟨_,hP⟩
  ·exact ⟨o,base b o (ghost_ne e (by simpa using hb))⟩
end Mine
end
section
open PySem PySem.Calls PyProof.Rows PySem.Builtin.Str
namespace Mine
section
variable {cx : XCx} {ε : Sc}
theorem ziU {T : NAd} {F : AP} {h : Heap} : ∀ {vs : List Value} {ds : List D},vs.length = ds.length → (∀ (i : Nat) v d,vs[i]? = some v → ds[i]? = some d → Rep T F h v d) → RepL T F h vs ds
 | [],[],_,_ => .nil
 | v :: vs,d :: ds,hl,hp => .cons (hp 0 v d rfl rfl) (ziU (by simpa using hl) fun i v d h1 h2 => hp (i + 1) v d h1 h2)
 | [],_ :: _,hl,_ => by simp at hl
 | _ :: _,[],hl,_ => by simp at hl
theorem zfu {A : Around} (hh : A.handled = none) {F₀ F : AP} {s₀ s : Shared} (ok : CxOk cx) (st : Step cx F₀ s₀ F s) {r : Addr} {a b c : Int} {t u v : Tok} (hr : IsRange s.heap r a b c t u v) (hs : Builtin.Range.small a b c = true)
  {k : Nat} (hk : Builtin.Range.rangeSize a b c = (k : Int)) (hl : k ≤ lim) {Q E : VP} (hQ : Post cx F₀ s₀ (.own ((upTo k a c).map .int)) Q) : wpAny (model cx.prog cx.w) A (call (.type "list") [.ref r]) Q E s := by
 refine call_list_range hh hr hs hk (by unfold lim at hl; omega) fun h' tk acc c' keep hS hacc => ?_
 have hf : s.heap.get? s.heap.objs.size = none := zaz _
 have st' := st.trans (Step.grown ok st.wd tk keep)
 have nx := st.wd.newNotX hf
 refine hQ _ _ _ st' (.own (n := c') (st.fresh nx hf) (st.wd.newNotF hf) nx (vs := acc.toList) (by simpa using hS) (by simp [hacc.1]; exact hl) (ziU (by simp [hacc.1,upTo]) fun i v d h1 h2 => ?_))
 obtain ⟨tk',rfl⟩ := hacc.2 i v (by simpa using h1)
 have hi : i < k := by
  have := (List.getElem?_eq_some_iff.mp h1).1
  simpa [hacc.1] using this
 have : d = .int (a + i * c) := by
  unfold upTo at h2
  rw [List.map_map,List.getElem?_map,List.getElem?_range hi] at h2
  have := Option.some.inj h2
  rw [← this]
  show D.int (a + c * (i : Int)) = _
  rw [Int.mul_comm]
 rw [this]
 exact .int _ tk'
theorem zh8 {A : Around} {n : Nat} (hb : BudE n A) {F₀ F : AP} {s₀ s : Shared} (ok : CxOk cx) (st : Step cx F₀ s₀ F s) {vs : List Value} {ds : List D} (q : BRepL cx F s.heap vs ds) {l : List D} (hl : opRange ds = some l)
  {Q E : VP} (hQ : Post cx F₀ s₀ (.own l) Q) :
  wpAny (model cx.prog cx.w) A (call (.type "range") vs) (fun v s₁ => wpAny (model cx.prog cx.w) A (call (.type "list") [v]) Q E s₁) E s :=
 zeY ok st q hl fun r a b c t u v k s' st' hr hs hk hl' e => zfu hb.hd ok st' hr hs hk hl' (e ▸ hQ)
theorem zd5 {p p' pos' pos : Pos} {es : List Expr} {x : X} (hk : ε.kinds.lookup ("list" : Str) = some .globalImplicit) (hg : cx.mg ("list" : Str) = none) (hk' : ε.kinds.lookup ("range" : Str) = some .globalImplicit) (hg' : cx.mg ("range" : Str) = none) (h : SoundL cx ε es x false) :
  Sound cx ε (.Call (.Name "list" p) [.Call (.Name "range" p') es [] pos'] [] pos) (.op .listOf (.cons (.rangeI x) .nil)) := by
 refine Sound.ofE ?_ fun _ => rfl
 intro n cf A env F s ρ ad m cm H res he Q E hQ
 obtain ⟨rs,e1,e2⟩ := ev_op he
 obtain ⟨r,rs',e3,e4,rfl⟩ := zay e1
 obtain rfl := zbU e4
 obtain ⟨ds,l,e5,e6,rfl⟩ : ∃ ds l,ev cf x ρ = some ds ∧ opRange (ds.map R.ds) = some l ∧ r = .val (.list l) := by
  replace e3 := (zaJ _).symm.trans e3
  split at e3
  ·rename_i ds e
   obtain ⟨l,e7,e8⟩ := Option.map_eq_some_iff.mp e3
   (injection e8 with e8 z; injection z; subst e8)
   exact ⟨ds,l,e,e7,rfl⟩
  ·injection e3
 (injection e2 with e2; subst e2)
 rw [zaw (by intro _ _ _ e; injection e)]
 refine wb (zaS H hk hg (by decide) (v := .type "list") (by rfl) (by decide) ?_)
 rw [zao rfl,zav]
 refine PyProof.Rows.callWith_type rfl (Calls.evalArgs_plain (Calls.spliced_cons ?_))
 rw [zaw (by intro _ _ _ e; injection e)]
 refine wb (zaS H hk' hg' (by decide) (v := .type "range") (by rfl) (by decide) ?_)
 refine PyProof.Rows.callWith_type (zaK h) (za2 h H e5 fun vs F' s' st q => ?_)
 refine wpAny_mono (zh8 H.bud H.ok st q.brep e6 hQ) (fun v s₁ h₁ => ?_) fun _ _ x => x
 exact Calls.spliced_nil h₁
end
end Mine
end
section
open PySem PySem.Calls PyProof.Rows PySem.Builtin.Str PySem.SeqAt PySem.AutoSeq1 PySem.MeetsSeq PySem.MeetsSeq2 PySem.MeetsSeq3 PySem.SeqRoads2
namespace Mine
inductive StrVs : List Value → List (List Nat) → Prop
 | nil : StrVs [] []
 | cons {l : List Nat} {t : Tok} {vs : List Value} {ls : List (List Nat)} : StrVs vs ls → StrVs (.str ⟨l.toArray⟩ t :: vs) (l :: ls)
theorem zdX {vs : List Value} {i : Nat} {v : Value} {r : List Value} (h : vs.drop i = v :: r) : vs.toArray[((i : Nat) : Int).toNat]? = some v ∧ vs.drop (i + 1) = r := by
 constructor
 ·rw [Int.toNat_natCast,List.getElem?_toArray, ← Nat.add_zero i, ← List.getElem?_drop,h]; rfl
 ·rw [← List.drop_drop,h]; rfl
theorem zdf {vs : List Value} {i : Nat} (h : vs.drop i = []) : vs.toArray[((i : Nat) : Int).toNat]? = none := by
 rw [Int.toNat_natCast,List.getElem?_toArray,List.getElem?_eq_none_iff]
 exact List.drop_eq_nil_iff.mp h
theorem zbB {vs : List Value} {i : Nat} {r : List Value} (h : vs.drop i = r) (hi : i ≤ vs.length) : vs.toArray.size = i + r.length := by
 have := congrArg List.length h
 rw [List.length_drop] at this
 rw [List.size_toArray, ← this,Nat.add_sub_cancel' hi]
theorem zj0 (A : Around) (s : Shared) (a b : List Nat) (t u : Tok) : EqAt A s (.str ⟨a.toArray⟩ t) (.str ⟨b.toArray⟩ u) (decide (a = b)) := by
 have h := EqAt.str_str (A := A) (s := s) ⟨a.toArray⟩ t ⟨b.toArray⟩ u
 have e : ((⟨a.toArray⟩ : PySem.Str) == ⟨b.toArray⟩) = decide (a = b) := by
  by_cases q : a = b
  ·subst q; simp
  ·rw [decide_eq_false q,beq_eq_false_iff_ne]
   intro h; exact q (by simpa using h)
 rwa [e] at h
section
variable {l b : Addr} {vs ws : List Value} {n n2 : Nat}
theorem lt_loop : ∀ (xs ys : List (List Nat)) (i : Nat),StrVs (vs.drop i) xs → StrVs (ws.drop i) ys → i ≤ vs.length → i ≤ ws.length → Meets (Builtin.«list.__eq__.loop» ⟨[.ref l,.ref b,rawInt i,rawInt 0],[]⟩)
  (fun A R s => s.heap.get? l = some (lobj vs.toArray n) ∧ s.heap.get? b = some (lobj ws.toArray n2) ∧ R (.ok (.ret (.bool (ltSs xs ys)))) s) := by
 intro xs
 induction xs with
 | nil =>
  intro ys i q1 q2 l1 l2 prog w A R s h
  obtain ⟨hp,g,d,tk,os⟩ := s; obtain ⟨hl,hb,h⟩ := h
  generalize e1 : vs.drop i = r1 at q1
  generalize e2 : ws.drop i = r2 at q2
  cases q1
  have z1 := zbB e1 l1
  have z2 := zbB e2 l2
  wp_walk using wpAny_loadPart' hl,wpAny_loadPart' hb
  rw [zdf e1]
  wp_walk using wpAny_loadPart' hl,wpAny_loadPart' hb
  show R (.ok (.ret (.bool (decide (vs.toArray.size < ws.toArray.size))))) _
  rw [z1,z2]
  cases q2 with
  | nil => rw [decide_eq_false (by simp)]; exact h
  | cons q2 => rw [decide_eq_true (by simp)]; exact h
 | cons x xs ih =>
  intro ys i q1 q2 l1 l2 prog w A R s h
  obtain ⟨hp,g,d,tk,os⟩ := s; obtain ⟨hl,hb,h⟩ := h
  generalize e1 : vs.drop i = r1 at q1
  generalize e2 : ws.drop i = r2 at q2
  cases q1 with | cons q1 =>
  have z1 := zbB e1 l1
  have z2 := zbB e2 l2
  obtain ⟨g1,e1'⟩ := zdX e1
  cases q2 with
  | nil =>
   wp_walk using wpAny_loadPart' hl,wpAny_loadPart' hb
   rw [g1,zdf e2]
   wp_walk using wpAny_loadPart' hl,wpAny_loadPart' hb
   show R (.ok (.ret (.bool (decide (vs.toArray.size < ws.toArray.size))))) _
   rw [z1,z2,decide_eq_false (by simp)]
   exact h
  | cons q2 =>
   obtain ⟨g2,e2'⟩ := zdX e2
   wp_walk using wpAny_loadPart' hl,wpAny_loadPart' hb
   rw [g1,g2]
   refine wb (zj0 _ _ _ _ _ _ prog w _ _ ?_)
   have hc : ((i : Int) + 1) = ((i + 1 : Nat) : Int) := by push_cast; rfl
   unfold ltSs at h
   rename_i y _ _ _
   by_cases hxy : x = y
   ·rw [if_pos hxy] at h
    rw [decide_eq_true hxy]
    wp_walk
    rw [hc]
    refine ⟨plainId_quiet plain_eq_loop _,codeAny_builtin entry_eq_loop ?_⟩
    rw [Around.under_plainId plain_eq_loop _]
    rw [List.length_cons,List.size_toArray] at z1 z2
    exact ih _ (i + 1) (e1' ▸ q1) (e2' ▸ q2) (z1 ▸ Nat.add_le_add_left (Nat.succ_le_succ (Nat.zero_le _)) i) (z2 ▸ Nat.add_le_add_left (Nat.succ_le_succ (Nat.zero_le _)) i) prog w A R _ ⟨hl,hb,h⟩
   ·rw [if_neg hxy] at h
    rw [decide_eq_false hxy]
    wp_walk using wpAny_loadPart' hl,wpAny_loadPart' hb
    rw [g1,g2]
    refine wb ?_
    exact P.lt_str (wpAny_pure h)
theorem gt_loop : ∀ (xs ys : List (List Nat)) (i : Nat),StrVs (vs.drop i) xs → StrVs (ws.drop i) ys → i ≤ vs.length → i ≤ ws.length → Meets (Builtin.«list.__eq__.loop» ⟨[.ref l,.ref b,rawInt i,rawInt 4],[]⟩)
  (fun A R s => s.heap.get? l = some (lobj vs.toArray n) ∧ s.heap.get? b = some (lobj ws.toArray n2) ∧ R (.ok (.ret (.bool (ltSs ys xs)))) s) := by
 intro xs
 induction xs with
 | nil =>
  intro ys i q1 q2 l1 l2 prog w A R s h
  obtain ⟨hp,g,d,tk,os⟩ := s; obtain ⟨hl,hb,h⟩ := h
  generalize e1 : vs.drop i = r1 at q1
  generalize e2 : ws.drop i = r2 at q2
  cases q1
  have z1 := zbB e1 l1
  have z2 := zbB e2 l2
  wp_walk using wpAny_loadPart' hl,wpAny_loadPart' hb
  rw [zdf e1]
  wp_walk using wpAny_loadPart' hl,wpAny_loadPart' hb
  show R (.ok (.ret (.bool (decide (vs.toArray.size > ws.toArray.size))))) _
  rw [z1,z2]
  cases q2 with
  | nil => rw [decide_eq_false (by simp)]; exact h
  | cons q2 => rw [decide_eq_false (by simp)]; exact h
 | cons x xs ih =>
  intro ys i q1 q2 l1 l2 prog w A R s h
  obtain ⟨hp,g,d,tk,os⟩ := s; obtain ⟨hl,hb,h⟩ := h
  generalize e1 : vs.drop i = r1 at q1
  generalize e2 : ws.drop i = r2 at q2
  cases q1 with | cons q1 =>
  have z1 := zbB e1 l1
  have z2 := zbB e2 l2
  obtain ⟨g1,e1'⟩ := zdX e1
  cases q2 with
  | nil =>
   wp_walk using wpAny_loadPart' hl,wpAny_loadPart' hb
   rw [g1,zdf e2]
   wp_walk using wpAny_loadPart' hl,wpAny_loadPart' hb
   show R (.ok (.ret (.bool (decide (vs.toArray.size > ws.toArray.size))))) _
   rw [z1,z2,decide_eq_true (by simp)]
   exact h
  | cons q2 =>
   obtain ⟨g2,e2'⟩ := zdX e2
   wp_walk using wpAny_loadPart' hl,wpAny_loadPart' hb
   rw [g1,g2]
   refine wb (zj0 _ _ _ _ _ _ prog w _ _ ?_)
   have hc : ((i : Int) + 1) = ((i + 1 : Nat) : Int) := by push_cast; rfl
   unfold ltSs at h
   rename_i y _ _ _
   by_cases hxy : x = y
   ·rw [if_pos (Eq.symm hxy)] at h
    rw [decide_eq_true hxy]
    wp_walk
    rw [hc]
    refine ⟨plainId_quiet plain_eq_loop _,codeAny_builtin entry_eq_loop ?_⟩
    rw [Around.under_plainId plain_eq_loop _]
    rw [List.length_cons,List.size_toArray] at z1 z2
    exact ih _ (i + 1) (e1' ▸ q1) (e2' ▸ q2) (z1 ▸ Nat.add_le_add_left (Nat.succ_le_succ (Nat.zero_le _)) i) (z2 ▸ Nat.add_le_add_left (Nat.succ_le_succ (Nat.zero_le _)) i) prog w A R _ ⟨hl,hb,h⟩
   ·rw [if_neg (fun e => hxy (Eq.symm e))] at h
    rw [decide_eq_false hxy]
    wp_walk using wpAny_loadPart' hl,wpAny_loadPart' hb
    rw [g1,g2]
    refine wb ?_
    exact P.gt_str (wpAny_pure h)
theorem list_lt : Meets (Builtin.«list.__lt__» ⟨[.ref l,.ref b],[]⟩) (fun A R s => s.heap.get? l = some (lobj vs.toArray n) ∧ s.heap.get? b = some (lobj ws.toArray n2) ∧ ∃ xs ys,StrVs vs xs ∧ StrVs ws ys ∧ R (.ok (.ret (.bool (ltSs xs ys)))) s) := by
 intro prog w A R s h
 obtain ⟨hp,g,d,tk,os⟩ := s; obtain ⟨hl,hb,xs,ys,q1,q2,h⟩ := h
 have f3 := AutoSeq1.sub_list_list
 wp_walk using wpAny_loadPart' hl,wpAny_loadPart' hb
 refine ⟨plainId_quiet plain_eq_loop _,codeAny_builtin entry_eq_loop ?_⟩
 rw [Around.under_plainId plain_eq_loop _]
 exact lt_loop xs ys 0 q1 q2 (Nat.zero_le _) (Nat.zero_le _) prog w A R _ ⟨hl,hb,h⟩
theorem list_gt : Meets (Builtin.«list.__gt__» ⟨[.ref l,.ref b],[]⟩) (fun A R s => s.heap.get? l = some (lobj vs.toArray n) ∧ s.heap.get? b = some (lobj ws.toArray n2) ∧ ∃ xs ys,StrVs vs xs ∧ StrVs ws ys ∧ R (.ok (.ret (.bool (ltSs ys xs)))) s) := by
 intro prog w A R s h
 obtain ⟨hp,g,d,tk,os⟩ := s; obtain ⟨hl,hb,xs,ys,q1,q2,h⟩ := h
 have f3 := AutoSeq1.sub_list_list
 wp_walk using wpAny_loadPart' hl,wpAny_loadPart' hb
 refine ⟨plainId_quiet plain_eq_loop _,codeAny_builtin entry_eq_loop ?_⟩
 rw [Around.under_plainId plain_eq_loop _]
 exact gt_loop xs ys 0 q1 q2 (Nat.zero_le _) (Nat.zero_le _) prog w A R _ ⟨hl,hb,h⟩
theorem rich_lt {prog : Program} {w : World} {A : Around} {E : VP} {s : Shared} {Q : VP} (hl : s.heap.get? l = some (lobj vs.toArray n)) (hb : s.heap.get? b = some (lobj ws.toArray n2)) {xs ys : List (List Nat)} (q1 : StrVs vs xs) (q2 : StrVs ws ys) (hu : A.units < cLine)
  (h : Q (.bool (ltSs xs ys)) s) : wpAny (model prog w) A (richCompare .Lt (.ref l) (.ref b)) Q E s :=
 richCompare_meets_room (T := "list") ⟨_,hl,rfl⟩ ⟨_,hb,rfl⟩ PySem.F.slot_list_lt PySem.F.entry_list_lt (PySem.F.args_list_lt_2 _ _) list_lt ⟨hl,hb,xs,ys,q1,q2,by simp,h⟩ hu
theorem rich_gt {prog : Program} {w : World} {A : Around} {E : VP} {s : Shared} {Q : VP} (hl : s.heap.get? l = some (lobj vs.toArray n)) (hb : s.heap.get? b = some (lobj ws.toArray n2)) {xs ys : List (List Nat)} (q1 : StrVs vs xs) (q2 : StrVs ws ys) (hu : A.units < cLine)
  (h : Q (.bool (ltSs ys xs)) s) : wpAny (model prog w) A (richCompare .Gt (.ref l) (.ref b)) Q E s :=
 richCompare_meets_room (T := "list") ⟨_,hl,rfl⟩ ⟨_,hb,rfl⟩ PySem.F.slot_list_gt PySem.F.entry_list_gt (PySem.F.args_list_gt_2 _ _) list_gt ⟨hl,hb,xs,ys,q1,q2,by simp,h⟩ hu
end
end Mine
end
section
open PySem PySem.Calls PyProof.Rows PySem.Builtin.Str
namespace Mine
theorem zhj {T : NAd} {F : AP} {h : Heap} {l : List D} {ls : List (List Nat)} {vs : List Value} (e : toStrs l = some ls) (q : RepL T F h vs l) : StrVs vs ls := by
 have e' := zd0 e
 subst e'
 clear e
 induction ls generalizing vs with
 | nil => cases q; exact .nil
 | cons x ls ih => cases q with | cons a b => cases a with | str t p z => exact .cons (ih b)
inductive LtInv : D → D → Bool → Prop
 | str (x y : List Nat) : LtInv (.str x) (.str y) (ltL x y)
 | list {la lb : List D} {x y : List (List Nat)} : toStrs la = some x → toStrs lb = some y → LtInv (.list la) (.list lb) (ltSs x y)
theorem ltD_inv {a b : D} {c : Bool} (e : ltD a b = some c) : LtInv a b c := by
 cases a <;> try (injection e; done)
 ·cases b <;> try ((first | (injection e; done) | (injection e with e; subst e)); done)
  (injection e with e; subst e); exact .str _ _
 ·cases b <;> try (injection e; done)
  rename_i la lb
  replace e : (match toStrs la,toStrs lb with | some x,some y => some (ltSs x y) | _,_ => none) = some c := e
  cases e1 : toStrs la with
  | none => rw [e1] at e; injection e
  | some x =>
  cases e2 : toStrs lb with
  | none => rw [e1,e2] at e; injection e
  | some y =>
  rw [e1,e2] at e
  (injection e with e; subst e)
  exact .list e1 e2
inductive LtVal (h0 : Heap) : Value → Value → Bool → Prop
 | str (x y : List Nat) (t t' : Tok) : LtVal h0 (.str ⟨x.toArray⟩ t) (.str ⟨y.toArray⟩ t') (ltL x y)
 | list {a b : Addr} {vs ws : List Value} {n n2 : Nat} {xs ys : List (List Nat)} : h0.get? a = some (lobj vs.toArray n) → h0.get? b = some (lobj ws.toArray n2) → StrVs vs xs → StrVs ws ys → LtVal h0 (.ref a) (.ref b) (ltSs xs ys)
inductive BestInv (better : D → D → Option Bool) : List D → R → Prop
 | list {d : D} {r : List D} {res : D} : bestGo better d r = some res → BestInv better [.list (d :: r)] (.val res)
 | tup {d : D} {r : List D} {res : D} : bestGo better d r = some res → BestInv better [.tup (d :: r)] (.val res)
theorem zle {better : D → D → Option Bool} {ds : List D} {r : R} (e : opBest better ds = some r) : BestInv better ds r := by
 rcases ds with _ | ⟨a,t⟩
 ·injection e
 cases a <;> try (injection e; done)
 all_goals
  rcases t with _ | ⟨_,_⟩
  ·rename_i l
   rcases l with _ | ⟨d,l⟩
   ·injection e
   obtain ⟨res,e1,e2⟩ := Option.map_eq_some_iff.mp (show (bestGo better d l).map R.val = some r from e)
   subst e2
   first | exact .list e1 | exact .tup e1
  ·rename_i l _ _
   rcases l with _ | ⟨_,_⟩ <;> injection e
section
variable {cx : XCx} {F : AP} {h0 : Heap} {prog : Program} {w : World} {A : Around} {E : VP} {s : Shared}
theorem zlw {v u : Value} {a b : D} {c : Bool} (qa : Rep cx.T F h0 v a) (qb : Rep cx.T F h0 u b) (e : ltD a b = some c) : LtVal h0 v u c := by
 cases ltD_inv e with
 | str x y => cases qa with | str t p z => cases qb with | str t' p' z' => exact .str x y t t'
 | list e1 e2 => cases qa with | list f g z q => cases qb with | list f' g' z' q' => exact .list g g' (zhj e1 q) (zhj e2 q')
theorem zhZ {v u : Value} {a b : D} {c : Bool} (qa : Rep cx.T F h0 v a) (qb : Rep cx.T F h0 u b) (hk : ∀ a o,h0.get? a = some o → s.heap.get? a = some o) (hu : A.units < cLine) (e : ltD a b = some c) {Q : VP} (h : Q (.bool c) s) :
  wpAny (model prog w) A (richCompare .Lt v u) Q E s := by
 cases zlw qa qb e with
 | str => exact P.lt_str h
 | list g g' q q' => exact rich_lt (hk _ _ g) (hk _ _ g') q q' hu h
theorem zh0 {v u : Value} {a b : D} {c : Bool} (qa : Rep cx.T F h0 v a) (qb : Rep cx.T F h0 u b) (hk : ∀ a o,h0.get? a = some o → s.heap.get? a = some o) (hu : A.units < cLine) (e : gtD a b = some c) {Q : VP} (h : Q (.bool c) s) :
  wpAny (model prog w) A (richCompare .Gt v u) Q E s := by
 cases zlw qb qa e with
 | str => exact P.gt_str h
 | list g g' q q' => exact rich_gt (hk _ _ g') (hk _ _ g) q' q hu h
noncomputable def mm1 : {f : String → PySem.Builtin // PySem.Builtin.«min» = f "min" ∧ PySem.Builtin.«max» = f "max"} := ⟨_,rfl,rfl⟩
noncomputable def mmL : {f : String → CmpOp → PySem.Builtin // PySem.Builtin.«min.loop» = f "min" .Lt ∧ PySem.Builtin.«max.loop» = f "max" .Gt} := ⟨_,rfl,rfl⟩
set_option genInjectivity false in
structure MM (nm lp : String) (op : CmpOp) (better : D → D → Option Bool) : Prop where
 hn : (toString nm ++ toString ".loop" : String) = lp
 k : builtinKind nm = none
 p1 : plainId nm = true
 e1 : entryFor table nm = some (mm1.1 nm)
 a1 : ∀ a,argsOk nm ⟨[a],[]⟩
 p2 : plainId lp = true
 e2 : entryFor table lp = some (mmL.1 nm op)
 rich : ∀ {cx : XCx} {F : AP} {h0 : Heap} {prog : Program} {w : World} {A : Around} {E : VP} {s : Shared} {v u : Value} {a b : D} {c : Bool},Rep cx.T F h0 v a → Rep cx.T F h0 u b → (∀ a o,h0.get? a = some o → s.heap.get? a = some o) → A.units < cLine → better a b = some c → ∀ {Q : VP},Q (.bool c) s →
  wpAny (model prog w) A (richCompare op v u) Q E s
theorem mm_min : MM "min" "min.loop" .Lt ltD := ⟨by decide,PySem.F.kind_min,PySem.F.plain_min,mm1.2.1 ▸ PySem.F.entry_min,PySem.F.args_min1,PySem.F.plain_min_loop,mmL.2.1 ▸ PySem.F.entry_min_loop,zhZ⟩
theorem mm_max : MM "max" "max.loop" .Gt gtD := ⟨by decide,PySem.F.kind_max,PySem.F.plain_max,mm1.2.2 ▸ PySem.F.entry_max,PySem.F.args_max1,PySem.F.plain_max_loop,mmL.2.2 ▸ PySem.F.entry_max_loop,zh0⟩
variable {nm lp : String} {op : CmpOp} {better : D → D → Option Bool}
theorem mm_loop (M : MM nm lp op better) {R : Result → Shared → Prop} {I S : Addr} {fp wr : List Addr} {P : Nat → Value → Prop} {St : Nat → Heap → Prop} {items : List D} (W : Walks prog w A.in1 I fp wr items.length P St) (hu : A.units + 1 < cLine) (hSf : S ∉ fp) (hw : ∀ b ∈ S :: wr,h0.get? b = none)
  (item : ∀ i v,P i v → ∃ d,items[i]? = some d ∧ Rep cx.T F h0 v d) {res : D} :
  ∀ (k j : Nat) (s : Shared) (vb : Value) (db : D) (c : Nat),items.length - j = k → j ≤ items.length → St j s.heap → (∀ a o,h0.get? a = some o → s.heap.get? a = some o) → Rep cx.T F h0 vb db → bestGo better db (items.drop j) = some res →
  s.heap.get? S = some { cls := .type "list",dict := none,data := .seq #[vb,vb] c,slots := #[] } →
  (∀ v h' tk,Rep cx.T F h0 v res → (∀ a o,h0.get? a = some o → h'.get? a = some o) → R (.ok (.ret v)) { s with heap := h',toks := tk }) →
  codeAny (model prog w) A (.builtin lp ⟨[.ref I,.none,.ref S],[]⟩) R s := by
 have hSw : S ∉ wr := fun h => hSf (W.sub _ h)
 have notw : ∀ a o,h0.get? a = some o → a ∉ wr := fun a o e h => by rw [hw a (List.mem_cons_of_mem _ h)] at e; injection e
 have notS : ∀ a o,h0.get? a = some o → a ≠ S := fun a o e h => by rw [h,hw S List.mem_cons_self] at e; injection e
 intro k
 induction k with
 | zero =>
  intro j s vb db c hk hj hst hkp hvb hg hS hR
  have hin : j = items.length := Nat.le_antisymm hj (Nat.le_of_sub_eq_zero hk)
  subst hin
  rw [List.drop_length] at hg
  cases hg
  refine codeAny_builtin M.e2 ?_
  rw [Around.under_plainId M.p2 _]
  show wpAny _ A.in1 (seqItems? (.ref S) >>= _) _ _ s
  refine wb (wpAny_seqItems hS rfl ?_)
  show wpAny _ A.in1 (tryCatch (pyNext (.ref I)) _ >>= _) _ _ s
  refine wb (wpAny_tryCatch (W.done s _ _ hst fun h' tk hk' => ?_))
  have hS' := hk' S _ hSw hS
  show wpAny _ A.in1 (updateSeq S (fun _ => #[]) >>= _) _ _ _
  refine wb ?_
  refine wpAny_updateSeq hS' rfl (wb (wpAny_letGo (wpAny_pure ?_)))
  exact hR vb _ tk hvb fun b o e => (Heap.get?_update_other _ _ (Ne.symm (notS b o e))).trans (hk' b o (notw b o e) (hkp b o e))
 | succ k ih =>
  intro j s vb db c hk hj hst hkp hvb hg hS hR
  have hlt : j < items.length := Nat.lt_of_sub_pos (by rw [hk]; exact Nat.succ_pos _)
  rw [List.drop_eq_getElem_cons hlt] at hg
  refine codeAny_builtin M.e2 ?_
  rw [Around.under_plainId M.p2 _]
  show wpAny _ A.in1 (seqItems? (.ref S) >>= _) _ _ s
  refine wb (wpAny_seqItems hS rfl ?_)
  show wpAny _ A.in1 (tryCatch (pyNext (.ref I)) _ >>= _) _ _ s
  refine wb (wpAny_tryCatch (W.item j s _ _ hlt hst fun v h' tk hP hst' hk' => ?_))
  have hS' := hk' S _ hSw hS
  obtain ⟨d,hd,hv⟩ := item j v hP
  rw [List.getElem?_eq_getElem hlt] at hd
  (injection hd with hd; subst hd)
  unfold bestGo at hg
  have hkp' : ∀ a o,h0.get? a = some o → h'.get? a = some o := fun b o e => hk' b o (notw b o e) (hkp b o e)
  show wpAny _ A.in1 (tryCatch (holding [v,v] (richCompare op v vb >>= _)) _ >>= _) _ _ _
  cases hb : better items[j] db with
  | none => rw [hb] at hg; injection hg
  | some b =>
  rw [hb] at hg
  refine wb (wpAny_tryCatch (wpAny_holding (wb (M.rich (s := { s with heap := h',toks := tk }) hv hvb hkp' hu hb ?_))))
  refine wb (wpAny_holding (wpAny_truthy_bool ?_))
  refine wb (wpAny_letGo (wpAny_pure ?_))
  cases b with
  | true =>
   simp only [if_true]
   refine wb ?_
   refine wpAny_updateSeq hS' rfl (wb (wpAny_letGo ?_))
   rw [M.hn]
   refine wpAny_pure ⟨plainId_quiet M.p2 _,ih (j + 1) _ v _ _ (by rw [Nat.sub_succ,hk]; rfl) hlt (W.frame _ _ _ hst' fun b hbf o e => ?_) (fun b o e => ?_) hv hg (Heap.get?_update_self _ hS' rfl)
    fun v' h'' tk'' hP' hk'' => ?_⟩
   ·exact (Heap.get?_update_other _ _ (fun h : S = b => hSf (by rw [h]; exact hbf))).trans e
   ·exact (Heap.get?_update_other _ _ (Ne.symm (notS b o e))).trans (hkp' b o e)
   ·exact hR v' h'' tk'' hP' hk''
  | false =>
   simp only [Bool.false_eq_true,if_false]
   refine wb (wpAny_letGo ?_)
   rw [M.hn]
   exact wpAny_pure ⟨plainId_quiet M.p2 _,ih (j + 1) _ vb db c (by rw [Nat.sub_succ,hk]; rfl) hlt hst' hkp' hvb hg hS' fun v' h'' tk'' hP' hk'' => hR v' h'' tk'' hP' hk''⟩
theorem zis (M : MM nm lp op better) {x : Value} {d : D} {r : List D} {res : D} {Q : VP} (hu : A.units + 2 < cLine) (hg : bestGo better d r = some res)
  (h : wpAny (model prog w) A.in1 (pyIter x) (fun it s₂ => ∃ I fp wr P St,it = .ref I ∧ Walks prog w A.in1 I fp wr (d :: r).length P St ∧ St 0 s₂.heap ∧ (∀ b ∈ fp,b < s₂.heap.objs.size) ∧ (∀ b ∈ wr,s.heap.get? b = none) ∧ (∀ a o,s.heap.get? a = some o → s₂.heap.get? a = some o) ∧
   (∀ i v,P i v → ∃ d',(d :: r)[i]? = some d' ∧ Rep cx.T F s.heap v d') ∧
   ∀ v h' tk,Rep cx.T F s.heap v res → (∀ b o,s.heap.get? b = some o → h'.get? b = some o) → Q v { s₂ with heap := h',toks := tk }) E s) :
  wpAny (model prog w) A (call (.builtin nm) [x]) Q E s := by
 refine call_function_tree M.k M.p1 M.e1 (M.a1 _) ?_
 show wpAny _ A.in1 (Builtin.Builtins.bindParams nm ["key", "default"] 0 ⟨[],[]⟩ >>= _) _ _ s
 refine wb (wpAny_of_eq (show Builtin.Builtins.bindParams nm ["key", "default"] 0 ⟨[],[]⟩ = pure [none,none] from rfl) ?_)
 refine wb (wpAny_pure ?_)
 refine wb (wpAny_mono h (fun it s₂ h₂ => ?_) fun _ _ e => e)
 obtain ⟨I,fp,wr,P,St,rfl,W,hst,hfp,hwr,hkp,item,hQ⟩ := h₂
 refine wb (wpAny_newObj_type ?_)
 have hSf : s₂.heap.objs.size ∉ fp := fun hm => Nat.lt_irrefl _ (hfp _ hm)
 have hS0 : s.heap.get? s₂.heap.objs.size = none := by
  cases e : s.heap.get? s₂.heap.objs.size with
  | none => rfl
  | some o => exact absurd (Heap.lt_size (hkp _ _ e)) (Nat.lt_irrefl _)
 rw [M.hn]
 refine wpAny_pure ⟨plainId_quiet M.p2 _, ?_⟩
 have hSw : s₂.heap.objs.size ∉ wr := fun h => hSf (W.sub _ h)
 have hst1 := W.frame 0 _ (s₂.heap.push { cls := .type "list",data := .seq #[] 0 }) hst fun b _ o e => Heap.get?_push_of_some _ e
 refine codeAny_builtin M.e2 ?_
 rw [Around.under_plainId M.p2 _]
 show wpAny _ A.in1 (seqItems? (.ref s₂.heap.objs.size) >>= _) _ _ _
 refine wb (wpAny_seqItems (Heap.get?_push_size _ rfl) rfl ?_)
 show wpAny _ A.in1 (tryCatch (pyNext (.ref I)) _ >>= _) _ _ _
 refine wb (wpAny_tryCatch (W.item 0 _ _ _ (Nat.zero_lt_succ _) hst1 fun v h' tk hP hst' hk' => ?_))
 have hS' := hk' s₂.heap.objs.size _ hSw (Heap.get?_push_size _ rfl)
 obtain ⟨d',hd',hv⟩ := item 0 v hP
 (injection hd' with hd'; subst hd')
 have notw : ∀ a o,s.heap.get? a = some o → a ∉ wr := fun a o e h => by rw [hwr a h] at e; injection e
 have notS : ∀ a o,s.heap.get? a = some o → a ≠ s₂.heap.objs.size := fun a o e h => by rw [h,hS0] at e; injection e
 show wpAny _ A.in1 (updateSeq s₂.heap.objs.size (fun _ => #[v,v]) >>= _) _ _ _
 refine wb ?_
 refine wpAny_updateSeq hS' rfl ?_
 rw [M.hn]
 refine wpAny_pure ⟨plainId_quiet M.p2 _,mm_loop M (A := A) (cx := cx) (F := F) (h0 := s.heap) W (Nat.lt_of_succ_lt hu) hSf (fun b hb => ?_) item (r.length) 1 _ v d _ rfl (Nat.succ_le_succ (Nat.zero_le _)) (W.frame _ _ _ hst' fun b hbf o e => ?_) (fun b o e => ?_) hv (show bestGo better d ((d :: r).drop 1) = some res from hg) (Heap.get?_update_self _ hS' rfl) fun v' h'' tk'' hP' hk'' => ?_⟩
 ·rcases List.mem_cons.mp hb with rfl | hb
  ·exact hS0
  ·exact hwr b hb
 ·exact (Heap.get?_update_other _ _ (fun h : s₂.heap.objs.size = b => hSf (by rw [h]; exact hbf))).trans e
 ·exact (Heap.get?_update_other _ _ (Ne.symm (notS b o e))).trans (hk' b o (notw b o e) (Heap.get?_push_of_some _ (hkp b o e)))
 ·exact hQ v' h'' tk'' hP' hk''
end
section
variable {cx : XCx} {nm lp : String} {op : CmpOp} {better : D → D → Option Bool}
theorem zgs {x : Value} {a : Addr} {vs : List Value} {d : D} {r : List D} {res : D} (M : MM nm lp op better) {n : Nat} {Q E : VP} {s : Shared} {F : AP} {A : Around} {ok : CxOk cx} (bud : BudE n A) (w : Wd cx F s) {o o' : Obj} (g : s.heap.get? a = some o') (ql : RepL cx.T F s.heap vs (d :: r)) (e1 : bestGo better d r = some res) {St : Nat → Heap → Prop}
  (W : Walks cx.prog cx.w A.in1 s.heap.objs.size [s.heap.objs.size,a] [s.heap.objs.size] vs.toArray.size (fun i v => vs.toArray[i]? = some v) St) (st0 : St 0 (s.heap.push o))
  (it : ∀ {P : VP},P (.ref s.heap.objs.size) { s with heap := s.heap.push o } → wpAny (model cx.prog cx.w) A.in1 (pyIter x) P E s) (hQ : Post cx F s (.val res) Q) : wpAny (model cx.prog cx.w) A (call (.builtin nm) [x]) Q E s := by
 have el : (d :: r).length = vs.toArray.size := by rw [List.size_toArray]; exact ql.length.symm
 refine zis (cx := cx) (F := F) M (by have := bud.un; show A.units + 2 < 9900; omega) e1 (it ?_)
 refine ⟨s.heap.objs.size,[s.heap.objs.size,a],[s.heap.objs.size],fun i v => vs.toArray[i]? = some v,St,rfl,el ▸ W,st0, ?_, ?_,fun _ _ e => Heap.get?_push_of_some _ e,fun i v hv => ?_,fun v h' tk hv hk => ?_⟩
 ·intro b hb
  rw [Heap.size_push]
  rcases List.mem_cons.mp hb with rfl | hb
  ·exact Nat.lt_succ_self _
  ·cases List.mem_singleton.mp hb
   exact Nat.lt_succ_of_lt (Heap.lt_size g)
 ·intro b hb
  obtain rfl := List.mem_singleton.mp hb
  exact zaz _
 ·replace hv : vs.toArray[i]? = some v := hv
  rw [List.getElem?_toArray] at hv
  exact ql.getV hv
 ·exact hQ v F _ (Step.grown ok w tk hk) (.val (hv.mono (fun _ h => h) fun _ _ _ e => hk _ _ e))
theorem zi2 {n : Nat} {A : Around} {F : AP} {s : Shared} {vs : List Value} {ds : List D} {r : R} (M : MM nm lp op better) (ok : CxOk cx) (bud : BudE n A) (w : Wd cx F s) (q : BRepL cx F s.heap vs ds) (he : opBest better ds = some r) : Ev cx A F s (call (.builtin nm) vs) r := by
 intro Q E hQ
 cases zle he with
 | @list d r' res e1 =>
  obtain ⟨x,rfl,qa⟩ := q.one
  obtain ⟨a,vs,k,rfl,nx,g,z,ql⟩ := qa.list_inv w
  exact zgs (ok := ok) M bud w g ql e1 (Walks.list (A := A.in1) bud.hd _ a (Nat.ne_of_lt (Heap.lt_size g)) vs.toArray) ⟨⟨_,Heap.get?_push_size _ rfl,rfl,rfl⟩,zaI (Heap.get?_push_of_some _ g)⟩ (fun h => wpAny_pyIter_list (zaI g) h) hQ
 | @tup d r' res e1 =>
  obtain ⟨x,rfl,qa⟩ := q.one
  obtain ⟨a,vs,k,rfl,f,g,z,ql⟩ := qa.tup_inv
  have ht : s.heap.IsTuple a vs.toArray := ⟨_,g,rfl,k,rfl⟩
  exact zgs (ok := ok) M bud w g ql e1 (Walks.tuple (A := A.in1) bud.hd _ a (Nat.ne_of_lt (Heap.lt_size g)) vs.toArray) ⟨⟨_,Heap.get?_push_size _ rfl,rfl,rfl⟩,ht.push _⟩ (fun h => wpAny_pyIter_tuple ht h) hQ
theorem op_min : OpOK cx .min (fun vs => call (.builtin "min") vs) := by
 intro n A F s vs ds r ok bud w q he
 exact zi2 mm_min ok bud w q he
inductive MaxInv : List D → R → Prop
 | two (a b : Int) : MaxInv [.int a,.int b] (.val (.int (if b > a then b else a)))
 | best {ds : List D} {r : R} : opBest gtD ds = some r → MaxInv ds r
theorem max_inv {ds : List D} {r : R} (he : opMax ds = some r) : MaxInv ds r := by
 rcases ds with _ | ⟨a0,t0⟩
 ·injection he
 cases a0 with
 | int a =>
  rcases t0 with _ | ⟨a1,t1⟩
  ·injection he
  cases a1 with
  | int b => rcases t1 with _ | ⟨_,_⟩ <;> (first | (injection he; done) | (injection he with he; subst he)); exact .two a b
  | _ => exact .best he
 | _ => exact .best he
theorem op_max : OpOK cx .max (fun vs => call (.builtin "max") vs) := by
 intro n A F s vs ds r ok bud w q he
 cases max_inv (show opMax ds = some r from he) with
 | two a b =>
  intro Q E hQ
  obtain ⟨x,y,rfl,qa,qb⟩ := q.two
  obtain ⟨t,rfl⟩ := qa.int_inv
  obtain ⟨u,rfl⟩ := qb.int_inv
  refine max_two_ints bud.hd fun h' tk hk => hQ _ F _ (Step.grown ok w tk hk) ?_
  by_cases h : b > a
  ·rw [if_pos h,if_pos h]; exact .val (.int _ _)
  ·rw [if_neg h,if_neg h]; exact .val (.int _ _)
 | best e => exact zi2 mm_max ok bud w q e
end
set_option genInjectivity false in
structure IterE (cx : XCx) (A : Around) (F₀ : AP) (s₀ : Shared) (items : List D) (e it : Addr) (F : AP) (s : Shared) (fp : List Addr) (P : Nat → Value → Prop) (St : Nat → Heap → Prop) : Prop where
 st : Step cx F₀ s₀ F s
 W : ∀ A' : Around,A'.handled = none → Draws cx.prog cx.w A' it fp items.length P St
 s0 : St 0 s.heap
 he : IsEnum s.heap e it 0 .none
 ne : e ≠ it
 nef : e ∉ fp
 newe : s₀.heap.get? e = none ∧ ¬ F e
 newi : s₀.heap.get? it = none ∧ ¬ F it
 deps : ∀ b ∈ fp,b = it ∨ F b
 item : ∀ i v,P i v → ∃ d,items[i]? = some d ∧ Rep cx.T F s.heap v d
 live : ∀ i h,St i h → ∃ o,h.get? it = some o
 lim : items.length ≤ lim
section
variable {cx : XCx} {ε : Sc}
theorem zgg : ∀ {l : List D} {j : Nat} {k : Int} {d : D},l[j]? = some d → (enumL k l)[j]? = some (.tup [.int (k + j),d])
 | [],j,k,d,h => by injection h
 | a :: l,0,k,d,h => by
  (injection h with h; subst h)
  show some (D.tup [.int k,a]) = _
  simp
 | a :: l,j + 1,k,d,h => by
  show (enumL (k + 1) l)[j]? = _
  rw [zgg (l := l) (by simpa using h),show k + 1 + (j : Int) = k + ((j + 1 : Nat) : Int) by push_cast; omega]
theorem zcq : ∀ {l : List D} {k : Int},(enumL k l).length = l.length
 | [],_ => rfl
 | a :: l,k => by show (enumL (k + 1) l).length + 1 = _; rw [zcq]; rfl
noncomputable def PairR (cx : XCx) (F : AP) (h : Heap) (v : Value) (d : D) : Prop := ∃ (a : Addr) (vs : List Value) (ds : List D),v = .ref a ∧ h.IsTuple a vs.toArray ∧ d = .tup ds ∧ RepL cx.T F h vs ds
theorem IterE.gen {A : Around} (hh : A.handled = none) {elts : List Expr} {kt : Nat} {pt : Pos} {F₀ F : AP} {s₀ s : Shared} {items : List D} {e it : Addr} {fp : List Addr} {P : Nat → Value → Prop} {St : Nat → Heap → Prop} (J : IterE cx A F₀ s₀ items e it F s fp P St) :
  IterG cx A (.Tuple elts kt pt) F₀ s₀ (enumL 0 items) e F s [e,it] (fun j h => (∃ old,IsEnum h e it (j : Int) old) ∧ St j h) (PairR cx) := by
 have mem : ∀ b,b ∈ [e,it] → b = e ∨ b = it := fun b hb => by simpa using hb
 have out : ∀ b,b ∉ [e,it] → b ≠ e ∧ b ≠ it := fun b hb => by simpa using hb
 refine ⟨J.st,⟨⟨_,J.he⟩,J.s0⟩,fun b hb => ?_,fun j h hs b hb => ?_,fun j h h' hs hk => ?_,fun j s' F' K N E hlt hst hrep hnw hQ => ?_,fun s' K N E hst hQ => ?_⟩
 ·rcases mem b hb with rfl | rfl
  ·exact J.newe
  ·exact J.newi
 ·rcases mem b hb with rfl | rfl
  ·obtain ⟨_,g⟩ := hs.1; exact ⟨_,g⟩
  ·exact J.live _ _ hs.2
 ·obtain ⟨⟨old,g⟩,hs⟩ := hs
  exact ⟨⟨old,hk e (.inl (by simp)) _ g⟩,(J.W A hh).frame _ _ _ hs fun b hb => hk b ((J.deps b hb).imp (fun q => by simp [q]) id)⟩
 ·rw [zcq] at hlt
  obtain ⟨⟨old,g⟩,hst⟩ := hst
  refine wpAny_pyNext_enum_itemD (J.W A.in1 hh) g hst hlt J.ne J.nef fun v h' tk hP hout hst' hT hsz hk => ?_
  refine wpAny_letOwnedTupleGo_enum (s := { s' with heap := h',toks := tk + 1 }) hout fun h2 hen2 hs2 => ?_
  have hk2 : ∀ b o,b ∉ [e,it] → s'.heap.get? b = some o → h2.get? b = some o := fun b o hb q => hs2.extBut b o (out b hb).1 (hk b o (out b hb).1 (out b hb).2 q)
  obtain ⟨d,hd,hr⟩ := J.item j v hP
  have hTne : s'.heap.objs.size ≠ e := fun q => by have := Heap.lt_size g; rw [q] at this; exact Nat.lt_irrefl _ this
  have hT2 : h2.get? s'.heap.objs.size = some { cls := .type "tuple",data := .seq #[.int (j : Int) tk,v] } := hs2.extBut _ _ hTne hT
  have hr2 : Rep cx.T F' h2 v d := (hrep v d hr).mono (fun _ h => h) fun a o f q => hk2 a o (fun hm => hnw a hm f) q
  have ec : (((j + 1 : Nat) : Int)) = (j : Int) + 1 := by push_cast; rfl
  refine hQ _ h2 (tk + 1) _ (zgg hd) ⟨_,[.int (j : Int) tk,v],[.int (0 + (j : Int)),d],rfl,⟨_,hT2,rfl,_,rfl⟩,rfl, ?_⟩ ⟨⟨v,ec ▸ hen2⟩,(J.W A hh).frame _ _ _ hst' fun b hb o q => hs2.extBut b o (fun q => J.nef (q ▸ hb)) q⟩ hk2
  rw [Int.zero_add]
  exact .cons (.int _ _) (.cons hr2 .nil)
 ·rw [zcq] at hst
  obtain ⟨⟨old,g⟩,hst⟩ := hst
  exact wpAny_pyNext_enum_endD (J.W A.in1 hh) g hst fun h' hk => hQ h' s'.toks fun b o hb q => hk b o (out b hb).2 q
end
section
variable {cx : XCx} {ε : Sc}
theorem zlb {A : Around} (hh : A.handled = none) {F₀ F : AP} {s₀ s : Shared} (ok : CxOk cx) (w₀ : Wd cx F₀ s₀) (st : Step cx F₀ s₀ F s) {v : Value} {d : D} (q : Rep cx.T F s.heap v d) {items : List D} (hi : enumOf d = some items)
  {Q E : VP} (hQ : ∀ e i F' s' fp P St,IterE cx A F₀ s₀ items e i F' s' fp P St → Q (.ref e) s') : wpAny (model cx.prog cx.w) A (call (.type "enumerate") [v]) (fun v s₁ => wpAny (model cx.prog cx.w) A (pyIter v) Q E s₁) E s := by
 have fr := zaz s.heap
 have fr2 : s.heap.get? (s.heap.objs.size + 1) = none := Heap.get?_none_of_le (Nat.le_succ _)
 have n1 : s₀.heap.get? s.heap.objs.size = none ∧ ¬ F s.heap.objs.size := ⟨st.fresh (st.wd.newNotX fr) fr,st.wd.newNotF fr⟩
 have n2 : s₀.heap.get? (s.heap.objs.size + 1) = none ∧ ¬ F (s.heap.objs.size + 1) := ⟨st.fresh (st.wd.newNotX fr2) fr2,st.wd.newNotF fr2⟩
 cases q with
 | @list a vs n l f g z q =>
  cases hi
  have hlt := Heap.lt_size g
  have hne : a ≠ s.heap.objs.size := Nat.ne_of_lt hlt
  have el : items.length = vs.toArray.size := by rw [List.size_toArray]; exact q.length.symm
  refine call_enumerate_list (zaI g) fun h' he hit hsz keep => ?_
  have stp := Step.grown ok st.wd s.toks keep
  refine wpAny_pyIter_enum he (hQ _ s.heap.objs.size F _ [s.heap.objs.size,a] (fun i v => vs.toArray[i]? = some v) (fun i h => h.IsListIter s.heap.objs.size a i ∧ h.IsList a vs.toArray) ?_)
  refine ⟨st.trans stp,fun A' hh => el ▸ Draws.list hh _ a hne vs.toArray,⟨hit,zaI (keep _ _ g)⟩,he,Nat.succ_ne_self _, ?_,n2,n1,fun b hb => ?_,fun i v h => ?_,fun i h hs => ?_,by rw [← q.length]; exact z⟩
  ·simp only [List.mem_cons,List.not_mem_nil,or_false,not_or]
   exact ⟨Nat.succ_ne_self _,fun e => Nat.lt_irrefl _ (Nat.lt_of_succ_lt (e.symm ▸ hlt : s.heap.objs.size + 1 < s.heap.objs.size))⟩
  ·simp only [List.mem_cons,List.not_mem_nil,or_false] at hb
   rcases hb with rfl | rfl
   ·exact .inl rfl
   ·exact .inr f
  ·replace h : vs.toArray[i]? = some v := h
   rw [List.getElem?_toArray] at h
   obtain ⟨d,e,r⟩ := q.getV h
   exact ⟨d,e,stp.rep st.wd r⟩
  ·obtain ⟨⟨o,g,_⟩,_⟩ := hs
   exact ⟨o,g⟩
 | @str l t p z =>
  (injection hi with hi; subst hi)
  have el : (l.map fun c => D.str [c]).length = (PySem.Str.mk l.toArray).cps.size := by simp
  refine call_enumerate_str fun h' he hit hsz keep => ?_
  have stp := Step.grown ok st.wd s.toks keep
  have item : ∀ (i : Nat) (v : Value),(∃ c u,(PySem.Str.mk l.toArray).cps[i]? = some c ∧ v = Value.str ⟨#[c]⟩ u) → ∃ d,(l.map fun c => D.str [c])[i]? = some d ∧ Rep cx.T F h' v d := by
   rintro i v ⟨c,u,e,rfl⟩
   rw [show (PySem.Str.mk l.toArray).cps = l.toArray from rfl,List.getElem?_toArray] at e
   refine ⟨.str [c],by rw [List.getElem?_map,e]; rfl,.str (l := [c]) u (fun c' h => ?_) (by simp [lim])⟩
   rw [List.mem_singleton.mp h]
   exact p _ (List.mem_of_getElem? e)
  have hz : (l.map fun c => D.str [c]).length ≤ lim := by simpa using z
  have nef : s.heap.objs.size + 1 ∉ [s.heap.objs.size] := fun h => Nat.succ_ne_self _ (List.mem_singleton.mp h)
  have deps : ∀ b ∈ [s.heap.objs.size],b = s.heap.objs.size ∨ F b := fun b hb => .inl (List.mem_singleton.mp hb)
  refine wpAny_pyIter_enum he ?_
  cases ha : (PySem.Str.mk l.toArray).cps.all (· < 128)
  ·have hit' : h'.IsStrIter s.heap.objs.size "str_iterator" ⟨l.toArray⟩ t 0 := by unfold strIterType at hit; rw [ha] at hit; exact hit
   exact hQ _ s.heap.objs.size F _ _ _ _ ⟨st.trans stp,fun A' hh => el ▸ Draws.strWide hh _ ⟨l.toArray⟩ t,hit',he,Nat.succ_ne_self _,nef,n2,n1,deps,item,fun i h hs => let ⟨o,g,_⟩ := hs; ⟨o,g⟩,hz⟩
  ·have hit' : h'.IsStrIter s.heap.objs.size "str_ascii_iterator" ⟨l.toArray⟩ t 0 := by unfold strIterType at hit; rw [ha] at hit; exact hit
   exact hQ _ s.heap.objs.size F _ _ _ _ ⟨st.trans stp,fun A' hh => el ▸ Draws.strAscii hh _ ⟨l.toArray⟩ t,hit',he,Nat.succ_ne_self _,nef,n2,n1,deps,item,fun i h hs => let ⟨o,g,_⟩ := hs; ⟨o,g⟩,hz⟩
 | _ => injection hi
theorem zla {cf : CfT} {x : X} {ρ : List Slot} {its : List D} (h : evI cf (.enumI x) ρ = some its) : ∃ r d items,ev cf x ρ = some [r] ∧ r.fz = some d ∧ enumOf d = some items ∧ its = enumL 0 items := by
 unfold evI at h
 split at h
 ·rename_i l e
  cases h
  replace e := (zbb _).symm.trans e
  split at e
  ·rename_i r e1
   split at e
   ·rename_i d e2
    obtain ⟨l',e3,e4⟩ := Option.map_eq_some_iff.mp e
    cases e4
    exact ⟨r,d,l',e1,e2,e3,rfl⟩
   ·injection e
  ·injection e
 ·injection h
theorem zeC {x y : Str} {i j : Nat} {p p' pt pe pc pos : Pos} {k : Nat} {e : Expr} {z : X} {bs : List Stmt} {b : S} (hk : ε.kinds.lookup ("enumerate" : Str) = some .globalImplicit) (hg : cx.mg ("enumerate" : Str) = none)
  (hx : ε.vars.lookup x = some i) (hy : ε.vars.lookup y = some j) (hfx : ε.kinds.lookup x ≠ some .free) (hfy : ε.kinds.lookup y ≠ some .free) (hi : Sound cx ε e z) (hst : starred e = false) (hb : SoundSs cx ε bs b)
  (hs : ∀ env x,foldedSetIterable (.Call (.Name "enumerate" pe) [e] [] pc) env x = pure x) : SoundS cx ε (.For (.Tuple [.Name x p,.Name y p'] k pt) (.Call (.Name "enumerate" pe) [e] [] pc) bs [] pos) (.forE2 i j (.enumI z) b) := by
 intro n cf A env F s ρ ad m cm H ρ' o h Q E hQ
 replace h := (zeo cf).symm.trans h
 split at h
 ·rename_i its ei
  obtain ⟨r,d,items,e1,e2,e3,rfl⟩ := zla ei
  refine zjK (TR := PairR cx) hb hs H (fun F s ρ m cm ad H' v d ρ' hv hp Q' E' hQ' => ?_) (fun Q' E' hQ' => ?_) h hQ
  ·obtain ⟨a,vs,ds,rfl,ht,rfl,q⟩ := hv
   unfold put2 at hp
   split at hp <;> (first | (injection hp; done) | (injection hp with hp; subst hp))
   rename_i q0
   (injection q0 with q0; subst q0)
   exact zfP H' ht q (is := [i,j]) rfl rfl rfl (.cons hx hfx za6 (.cons hy hfy za6 .nil)) hQ'
  rw [zaw (by intro _ _ _ e; injection e)]
  refine wb (zaS H.here hk hg (by decide) (v := .type "enumerate") (by kernel_rfl) (by decide) ?_)
  have hL : SoundL cx ε [e] (.cons z .nil) false := .cons hi hst .nil
  refine PyProof.Rows.callWith_type (zaK hL) (za2 hL H.here (zhF e1) fun vs F' s' st q => ?_)
  obtain ⟨v,rfl,q0⟩ : ∃ v,vs = [v] ∧ RepR cx F' s.heap s'.heap v r := by
   cases q with | cons a b => cases b; exact ⟨_,rfl,a⟩
  obtain ⟨F'',st',_,q'⟩ := st.fz H.ok H.wd q0 e2
  exact zlb H.bud.hd H.ok H.wd st' q' e3 fun e0 i0 F3 s3 fp P St J => hQ' e0 F3 s3 _ _ (J.gen H.bud.hd)
 ·injection h
end
section
variable {cx : XCx} {ε : Sc}
end
end Mine
end
section
open PySem PySem.Calls PyProof.Rows PySem.Builtin.Str PySem.SeqAt PySem.AutoSeq1 PySem.MeetsSeq PySem.MeetsSeq2 PySem.MeetsSeq3 PySem.SeqRoads2
namespace Mine
section
variable {cx : XCx} {ε : Sc}
end
end Mine
end
section
open PySem PySem.Calls PyProof.Rows PySem.Builtin.Str
open AutoSeq1 (wpAny_loadPart')
namespace Mine
theorem zfk : PySem.Slot "map" "__init__" "object.__init__" :=
 .of (owner := "object") (n := "__init__") (by rw [typeLookup_type,builtinLookup_eq_fast]; kernel_rfl) (by decide +kernel) (by decide +kernel) (by decide +kernel)
  (by first | exact .inl (by decide +kernel) | exact .inr (by decide +kernel)) (by rw [isSubtype_type]; kernel_rfl)
theorem zc1 : PySem.Slot "map" "__iter__" "map.__iter__" :=
 .of (owner := "map") (n := "__iter__") (by rw [typeLookup_type,builtinLookup_eq_fast]; kernel_rfl) (by decide +kernel) (by decide +kernel) (by decide +kernel)
  (by first | exact .inl (by decide +kernel) | exact .inr (by decide +kernel)) (by rw [isSubtype_type]; kernel_rfl)
theorem slot_map_next : PySem.Slot "map" "__next__" "map.__next__" :=
 .of (owner := "map") (n := "__next__") (by rw [typeLookup_type,builtinLookup_eq_fast]; kernel_rfl) (by decide +kernel) (by decide +kernel) (by decide +kernel)
  (by first | exact .inl (by decide +kernel) | exact .inr (by decide +kernel)) (by rw [isSubtype_type]; kernel_rfl)
theorem zcM : entryFor table "map.__next__" = some PySem.Builtin.«map.__next__» := entryFor_of_tree (by kernel_rfl)
theorem zde : entryFor table "map.__new__" = some PySem.Builtin.«map.__new__» := entryFor_of_tree (by kernel_rfl)
theorem zjh : mroOf (.type "map") = pure [.type "map",.type "object"] := by rw [mroOf_type]; kernel_rfl
theorem zeK : typeLookup (.type "map") "__new__" = pure (some (.builtin "map.__new__")) := by rw [typeLookup_type,builtinLookup_eq_fast]; kernel_rfl
theorem ze6 : TypeCalled "map" "map.__new__" "object.__init__" :=
 ⟨by decide +kernel,by decide +kernel,⟨_,_,zjh⟩,madeBy_type zjh zeK (by decide +kernel),by decide +kernel,by rw [isSubtype_type]; kernel_rfl,zfk⟩
theorem zcG (a b : Value) : checkTypeCall "map" ⟨[a,b],[]⟩ = pure () := by kernel_rfl
theorem zc7 (a b : Value) : checkBuiltinCall "map.__new__" ⟨[.type "map",a,b],[]⟩ = pure () := by kernel_rfl
theorem zh6 : typeLookup (.type "map") "__len__" = pure none := by rw [typeLookup_type,builtinLookup_eq_fast]; kernel_rfl
theorem zgU : typeLookup (.type "map") "__length_hint__" = pure none := by rw [typeLookup_type,builtinLookup_eq_fast]; kernel_rfl
theorem ziF : isSubtype (.type "map") (.type "map") = pure true := by rw [isSubtype_type]; kernel_rfl
theorem zcr (a : Value) : argsOk "map.__next__" ⟨[a],[]⟩ := by unfold argsOk; kernel_rfl
theorem zes (a : Value) : argsOk "map.__iter__" ⟨[a],[]⟩ := by unfold argsOk; kernel_rfl
theorem zeP : entryFor table "map.__iter__" = some PySem.Builtin.«dict_keyiterator.__iter__» :=
 entryFor_alias (id' := "dict_keyiterator.__iter__") (by kernel_rfl) (by first | rfl | decide +kernel | (unfold String.splitOn; simp +decide [String.splitOnAux])) (by decide +kernel) (by kernel_rfl)
noncomputable abbrev mobj (t : Addr) (f : Value) : Obj := { cls := .type "map",data := .fields #[.ref t,f] }
noncomputable abbrev mapH1 (c : String) (h : Heap) (l : Addr) : Heap := h.push { cls := .type c,data := .fields #[.ref l,.int 0 0] }
noncomputable abbrev mapH2 (c : String) (h : Heap) (l : Addr) : Heap := (mapH1 c h l).push { cls := .type "tuple",data := .seq #[.ref h.objs.size] }
noncomputable abbrev mapH3 (c : String) (h : Heap) (l : Addr) (f : Value) : Heap := (mapH2 c h l).push (mobj (mapH1 c h l).objs.size f)
theorem zfs (l : Addr) (f : Value) (items : Array Value) (n : Nat) :
  Meets (PySem.Builtin.«map.__new__» ⟨[.type "map",f,.ref l],[]⟩) (fun _ R s => s.heap.get? l = some (lobj items n) ∧
   R (.ok (.ret (.ref (mapH2 "list_iterator" s.heap l).objs.size))) { s with heap := mapH3 "list_iterator" s.heap l f }) :=
 .of_wp fun prog w A R s h => by
  obtain ⟨hp,g,d,tk,os⟩ := s; obtain ⟨hl,h⟩ := h
  have hsub := ziF
  have hL : Heap.IsList (Shared.heap ⟨hp,g,d,tk,os⟩) l items := ⟨_,hl,rfl,n,rfl⟩
  wp_walk using wpAny_loadPart' hl,wpAny_pyIter_list hL
  exact ⟨_,rfl,h⟩
theorem zeJ (l : Addr) (f : Value) (items : Array Value) (n : Nat) :
  Meets (PySem.Builtin.«map.__new__» ⟨[.type "map",f,.ref l],[]⟩) (fun _ R s => s.heap.get? l = some (tobj items n) ∧
   R (.ok (.ret (.ref (mapH2 "tuple_iterator" s.heap l).objs.size))) { s with heap := mapH3 "tuple_iterator" s.heap l f }) :=
 .of_wp fun prog w A R s h => by
  obtain ⟨hp,g,d,tk,os⟩ := s; obtain ⟨hl,h⟩ := h
  have hsub := ziF
  have hL : Heap.IsTuple (Shared.heap ⟨hp,g,d,tk,os⟩) l items := ⟨_,hl,rfl,n,rfl⟩
  wp_walk using wpAny_loadPart' hl,wpAny_pyIter_tuple hL
  exact ⟨_,rfl,h⟩
section
variable {prog : Program} {w : World} {A : Around} {E : VP} {s : Shared}
theorem zgm {l : Addr} {f : Value} {items : Array Value} {n : Nat} {Q : VP} (hl : s.heap.get? l = some (tobj items n)) (h : Q (.ref (mapH2 "tuple_iterator" s.heap l).objs.size) { s with heap := mapH3 "tuple_iterator" s.heap l f }) :
  wpAny (model prog w) A (call (.type "map") [f,.ref l]) Q E s :=
 callType_new ze6 (by decide) (zcG _ _) (zc7 _ _) (fun obj => PySem.F.args_object_init_3 obj _ _) zde (zeJ l f items n) ⟨hl,⟨_,Heap.get?_push_size _ rfl,rfl⟩,h⟩
theorem zdo {it t : Addr} {i : Nat} {items : Array Value} {x : Value} {Q : VP} (hit : s.heap.IsTupleIter it t i) (ht : s.heap.IsTuple t items) (hx : items[i]? = some x)
  (hQ : ∀ h',h'.IsTupleIter it t (i + 1) → Heap.SameBut it s.heap h' → Q x { s with heap := h' }) : wpAny (model prog w) A (Builtin.SmallTypes.nextOf (.ref it)) Q E s := by
 obtain ⟨o,ho,hc,hd⟩ := id hit
 obtain ⟨ol,hol,_,nl,hdl⟩ := ht
 unfold Builtin.SmallTypes.nextOf
 refine wb (wpAny_callSpecial?_slot (name := Str.ofString "__next__") hit.typeIs PySem.F.slot_tuple_iterator_next
  (wpAny_call_entry PySem.F.slot_tuple_iterator_next hit.typeIs PySem.F.entry_tuple_iterator_next ?_ (PySem.F.args_tuple_iterator_next_1 _)))
 show wpAny _ _ (field (.ref it) 0 >>= _) _ _ s
 refine wb (wpAny_field ho hd (x := .ref t) rfl ?_)
 show wpAny _ _ (if (Value.ref t == Value.none) = true then _ else _) _ _ s
 rw [if_neg (show ¬ ((Value.ref t == Value.none) = true) from Bool.false_ne_true)]
 show wpAny _ _ (field (.ref it) 1 >>= _) _ _ s
 refine wb (wpAny_field ho hd (x := .int i 0) rfl ?_)
 show wpAny _ _ (seqItems? (.ref t) >>= _) _ _ s
 refine wb (wpAny_seqItems hol hdl ?_)
 simp only [Int.toNat_natCast,hx]
 refine wb (wpAny_setField ho hd (by simp) (wpAny_pure ⟨x,rfl,wpAny_pure (hQ _ ?_ (Heap.SameBut.update ..))⟩))
 exact ⟨_,Heap.get?_update_self _ ho (Obj.isFreed_of_fields (Obj.data_mapFields hd _)),(Obj.cls_mapFields ..).trans hc,by
  rw [Obj.data_mapFields hd]; simp [rawInt]⟩
theorem zdM {it t : Addr} {i : Nat} {items : Array Value} {Q : VP} (hh : A.handled = none) (hit : s.heap.IsTupleIter it t i) (ht : s.heap.IsTuple t items) (hx : items[i]? = none)
  (hE : ∀ h' e,Heap.ExtBut it s.heap h' → (∃ o,h'.get? e = some o ∧ o.cls = .type "StopIteration") → E (.ref e) { s with heap := h' }) : wpAny (model prog w) A (Builtin.SmallTypes.nextOf (.ref it)) Q E s := by
 obtain ⟨o,ho,hc,hd⟩ := id hit
 obtain ⟨ol,hol,_,nl,hdl⟩ := ht
 unfold Builtin.SmallTypes.nextOf
 refine wb (wpAny_callSpecial?_slot (name := Str.ofString "__next__") hit.typeIs PySem.F.slot_tuple_iterator_next
  (wpAny_call_entry PySem.F.slot_tuple_iterator_next hit.typeIs PySem.F.entry_tuple_iterator_next ?_ (PySem.F.args_tuple_iterator_next_1 _)))
 show wpAny _ _ (field (.ref it) 0 >>= _) _ _ s
 refine wb (wpAny_field ho hd (x := .ref t) rfl ?_)
 show wpAny _ _ (if (Value.ref t == Value.none) = true then _ else _) _ _ s
 rw [if_neg (show ¬ ((Value.ref t == Value.none) = true) from Bool.false_ne_true)]
 show wpAny _ _ (field (.ref it) 1 >>= _) _ _ s
 refine wb (wpAny_field ho hd (x := .int i 0) rfl ?_)
 show wpAny _ _ (seqItems? (.ref t) >>= _) _ _ s
 refine wb (wpAny_seqItems hol hdl ?_)
 simp only [Int.toNat_natCast,hx]
 refine wb (wpAny_rule (wb (wpAny_setField ho hd (by simp) ?_)))
 show wpAny _ _ (newExc (.type "StopIteration") [] >>= _) _ _ _
 refine wb ?_
 simp only [newExc,newTuple]
 refine wb (wpAny_newObj_type ?_ (by size_fits))
 refine wb (m := firstArgMember _ _) (wpAny_of_eq (a := Value.none) (by first | rfl | (simp only [firstArgMember]; rfl)) ?_)
 refine wpAny_newObj_type ?_ (by size_fits)
 simp only [raiseNew]
 refine wb (wpAny_handled ?_)
 first | rw [show A.in1.handled = none from hh] | rw [hh]
 refine wb (wpAny_pure (wpAny_throw ?_))
 exact hE _ _ (((Heap.SameBut.update ..).extBut.push _).push _) ⟨_,Heap.get?_push_size _ rfl,rfl⟩
theorem zlc (hh : A.handled = none) (it t : Addr) (hne : t ≠ it) (items : Array Value) :
  Draws prog w A it [it,t] items.size (fun i v => items[i]? = some v) (fun i h => h.IsTupleIter it t i ∧ h.IsTuple t items) where
 live := fun _ _ st => let ⟨o,ho,_⟩ := st.1; ⟨o,ho⟩
 frame := fun _ _ _ st hk => ⟨let ⟨o,ho,r⟩ := st.1; ⟨o,hk it (by simp) o ho,r⟩,let ⟨o,ho,r⟩ := st.2; ⟨o,hk t (by simp) o ho,r⟩⟩
 item := fun i s Q E hi st hQ => by
  refine zdo st.1 st.2 (x := items[i]) (by simp [hi]) fun h' hit' hs' => ?_
  exact hQ _ h' s.toks (by simp [hi]) ⟨hit',let ⟨o,ho,r⟩ := st.2; ⟨o,(hs'.2 t hne).trans ho,r⟩⟩ hs'
 done := fun s Q E st hE => zdM hh st.1 st.2 (by simp) hE
theorem zfG {l : Addr} {f : Value} {items : Array Value} {n : Nat} {Q : VP} (hl : s.heap.get? l = some (lobj items n)) (h : Q (.ref (mapH2 "list_iterator" s.heap l).objs.size) { s with heap := mapH3 "list_iterator" s.heap l f }) :
  wpAny (model prog w) A (call (.type "map") [f,.ref l]) Q E s :=
 callType_new ze6 (by decide) (zcG _ _) (zc7 _ _) (fun obj => PySem.F.args_object_init_3 obj _ _) zde (zfs l f items n) ⟨hl,⟨_,Heap.get?_push_size _ rfl,rfl⟩,h⟩
theorem zh1 {M t : Addr} {f : Value} {Q : VP} (hm : s.heap.get? M = some (mobj t f)) (h : Q (.ref M) s) : wpAny (model prog w) A (pyIter (.ref M)) Q E s := by
 have hT : s.TypeIs (.ref M) "map" := ⟨_,hm,rfl⟩
 refine wpAny_pyIter_slot hT zc1 (wpAny_call_entry zc1 hT zeP ?_ (zes _))
 show wpAny _ _ (ret (.ref M)) _ _ s
 exact wpAny_pure ⟨_,rfl, "map",_,hT,slot_map_next.lookup,h⟩
theorem zkT {M t I : Addr} {f : Value} {k n i : Nat} {P : Nat → Value → Prop} {St : Nat → Heap → Prop} {fp : List Addr} {Q : Option Value → Shared → Prop} (D : Draws prog w A.in1 I fp n P St) (hm : s.heap.get? M = some (mobj t f)) (ht : s.heap.get? t = some (tobj #[.ref I] k)) (hst : St i s.heap) (hi : i < n) (hMI : M ≠ I)
  (hc : ∀ x h' tk,P i x → St (i + 1) h' → Heap.SameBut I s.heap h' → wpAny (model prog w) A.in1 (call f [x]) (fun v s' => Q (some v) s') (fun _ _ => False) { s with heap := h',toks := tk }) :
  wpAny (model prog w) A (pyNext (.ref M)) Q E s := by
 have hT : s.TypeIs (.ref M) "map" := ⟨_,hm,rfl⟩
 unfold pyNext
 refine wb (wpAny_attempt (wpAny_callSpecial?_slot (name := Str.ofString "__next__") hT slot_map_next (wpAny_call_entry slot_map_next hT zcM ?_ (zcr _))))
 show wpAny _ _ (field (.ref M) 0 >>= _) _ _ _
 refine wb (wpAny_field hm rfl (x := .ref t) rfl ?_)
 show wpAny _ _ (seqItems? (.ref t) >>= _) _ _ _
 refine wb (wpAny_seqItems ht rfl ?_)
 show wpAny _ _ (forIn #[Value.ref I] (#[] : Array Value) _ >>= _) _ _ _
 rw [← Array.forIn_toList]
 simp only [List.forIn_cons,List.forIn_nil]
 refine wb (wb (wb (wpAny_holding (D.item i _ _ _ hi hst fun x h' tk hP hst' hk => wpAny_pure ?_))))
 refine wpAny_pure ?_
 have hm' : h'.get? M = some (mobj t f) := (hk.2 M hMI).trans hm
 show wpAny _ _ (field (.ref M) 1 >>= _) _ _ { s with heap := h',toks := tk }
 refine wb (wpAny_field hm' rfl (x := f) rfl ?_)
 refine wb (wpAny_holding (wpAny_mono (hc x h' tk hP hst' hk) (fun v s' hv => ?_) fun _ _ h => h.elim))
 exact wb (wpAny_letGo (wpAny_pure ⟨v,rfl,wpAny_pure hv⟩))
theorem map_end {M t I : Addr} {f : Value} {k n : Nat} {P : Nat → Value → Prop} {St : Nat → Heap → Prop} {fp : List Addr} {Q : Option Value → Shared → Prop} (D : Draws prog w A.in1 I fp n P St) (hm : s.heap.get? M = some (mobj t f)) (ht : s.heap.get? t = some (tobj #[.ref I] k)) (hst : St n s.heap)
  (hQ : ∀ h',Heap.ExtBut I s.heap h' → Q none { s with heap := h' }) : wpAny (model prog w) A (pyNext (.ref M)) Q E s := by
 have hT : s.TypeIs (.ref M) "map" := ⟨_,hm,rfl⟩
 unfold pyNext
 refine wb (wpAny_attempt (wpAny_callSpecial?_slot (name := Str.ofString "__next__") hT slot_map_next (wpAny_call_entry slot_map_next hT zcM ?_ (zcr _))))
 show wpAny _ _ (field (.ref M) 0 >>= _) _ _ _
 refine wb (wpAny_field hm rfl (x := .ref t) rfl ?_)
 show wpAny _ _ (seqItems? (.ref t) >>= _) _ _ _
 refine wb (wpAny_seqItems ht rfl ?_)
 show wpAny _ _ (forIn #[Value.ref I] (#[] : Array Value) _ >>= _) _ _ _
 rw [← Array.forIn_toList]
 simp only [List.forIn_cons,List.forIn_nil]
 refine wb (wb (wb (wpAny_holding (D.done _ _ _ hst fun h' e he hx => ?_))))
 obtain ⟨o,ho,hc⟩ := hx
 refine wb (wpAny_isInstance (T := "StopIteration") (b := true) ⟨o,ho,hc⟩ isSubtype_stop ?_)
 exact wpAny_pure (hQ _ he)
end
section
variable {cx : XCx} {ε : Sc}
noncomputable def DrawsOf (cx : XCx) (I a : Addr) (vs : List Value) (St : Nat → Heap → Prop) : Prop := ∀ A' : Around,A'.handled = none → Draws cx.prog cx.w A' I [I,a] vs.toArray.size (fun i v => vs.toArray[i]? = some v) St
set_option genInjectivity false in
structure MapI (cx : XCx) (F₀ : AP) (s₀ : Shared) (St : Nat → Heap → Prop) (outs : List D) (I t M S : Addr) (f : Value) (j : Nat) (acc : Array Value) (F : AP) (s : Shared) : Prop where
 st : Step cx F₀ s₀ F s
 it : St j s.heap
 hm : s.heap.get? M = some (mobj t f)
 ht : ∃ k,s.heap.get? t = some (tobj #[.ref I] k)
 hS : ∃ c,s.heap.get? S = some (lobj acc c)
 rep : RepL cx.T F s.heap acc.toList (outs.take j)
 sz : acc.size = j
 nI : ¬ F I
 nS : ¬ F S
theorem zkS (ok : CxOk cx) {i n : Nat} {cf : CfT} (calls : CallOK cx n cf) {A : Around} (bud : Bud n A.in1.in1) {F₀ : AP} {s₀ : Shared} (w₀ : Wd cx F₀ s₀) {a I t M S : Addr} {vs : List Value} {St : Nat → Heap → Prop} (Dw : DrawsOf cx I a vs St) {items outs : List D} (ho : items.map (fun d => cf i [d]) = outs.map some) (hq : RepL cx.T F₀ s₀.heap vs items)
  (hl : vs.length ≤ lim) (hMI : M ≠ I) (hSI : S ≠ I) (hSM : S ≠ M) (hSt : S ≠ t) (hSa : S ≠ a) (htI : t ≠ I) (nI : s₀.heap.get? I = none) (nS : s₀.heap.get? S = none) (xt : ¬ cx.X t) (xM : ¬ cx.X M) (xa : ¬ cx.X a) {R : Result → Shared → Prop} :
  ∀ (k j : Nat) (F : AP) (s : Shared) (acc : Array Value),vs.length - j = k → j ≤ vs.length → MapI cx F₀ s₀ St outs I t M S (.ref (cx.fa i)) j acc F s →
  (∀ F' s' acc' c',Step cx F₀ s₀ F' s' → s'.heap.get? S = some (lobj acc' c') → RepL cx.T F' s'.heap acc'.toList outs → acc'.size ≤ lim → R (.ok (.ret (.ref S))) s') →
  codeAny (model cx.prog cx.w) A (.builtin "list.extend.loop" ⟨[.ref S,.ref M,.ref S],[]⟩) R s := by
 have xI := w₀.newNotX nI
 have xS := w₀.newNotX nS
 have hvl : vs.length = items.length := hq.length
 have hol : items.length = outs.length := by have := congrArg List.length ho; rwa [List.length_map,List.length_map] at this
 intro k
 induction k with
 | zero =>
  intro j F s acc hk hj J hR
  have hin : j = vs.length := Nat.le_antisymm hj (Nat.le_of_sub_eq_zero hk)
  obtain ⟨kt,ht⟩ := J.ht
  obtain ⟨c,hS⟩ := J.hS
  have hit : St vs.toArray.size s.heap := by rw [List.size_toArray, ← hin]; exact J.it
  refine codeAny_builtin PySem.F.entry_extend_loop ?_
  rw [Around.under_plainId PySem.F.plain_extend_loop _]
  show wpAny _ A.in1 (pyNext (.ref M) >>= _) _ _ s
  refine wb (map_end (A := A.in1) (Dw A.in1.in1 bud.hd) J.hm ht hit fun h' he => ?_)
  have st1 := J.st.kept ok w₀ (wr := (· = I)) (fun b hb => by subst hb; exact ⟨nI,J.nI⟩) s.toks (fun b o hb e => he b o hb e)
  have hr : RepL cx.T F h' acc.toList (outs.take j) := J.rep.mono (fun _ h => h) fun b o f e => he b o (fun q => J.nI (q ▸ f)) e
  rw [hin,hvl,hol,List.take_length] at hr
  exact wpAny_pure (hR F _ acc c st1 (he S _ hSI hS) hr (by rw [J.sz,hin]; exact hl))
 | succ k ih =>
  intro j F s acc hk hj J hR
  have hlt : j < vs.length := Nat.lt_of_sub_pos (by rw [hk]; exact Nat.succ_pos _)
  obtain ⟨kt,ht⟩ := J.ht
  obtain ⟨c,hS⟩ := J.hS
  refine codeAny_builtin PySem.F.entry_extend_loop ?_
  rw [Around.under_plainId PySem.F.plain_extend_loop _]
  show wpAny _ A.in1 (pyNext (.ref M) >>= _) _ _ s
  refine wb (zkT (A := A.in1) (Dw A.in1.in1 bud.hd) J.hm ht J.it (by rw [List.size_toArray]; exact hlt) hMI fun x h' tk hx hit' hk' => ?_)
  replace hx : vs.toArray[j]? = some x := hx
  rw [List.getElem?_toArray] at hx
  have st1 := J.st.kept ok w₀ (wr := (· = I)) (fun b hb => by subst hb; exact ⟨nI,J.nI⟩) tk (fun b o hb e => (hk'.2 b hb).trans e)
  obtain ⟨d,hd,hr⟩ := hq.getV hx
  have hlo : j < outs.length := by rw [← hol, ← hvl]; exact hlt
  have hc : cf i [d] = some outs[j] := by
   have := congrArg (·[j]?) ho
   simp only [List.getElem?_map,hd,List.getElem?_eq_getElem hlo,Option.map_some] at this
   exact Option.some.inj this
  refine wpAny_call ((calls.call i [d] _ hc).2 A.in1.in1 F _ [x] bud st1.wd (.cons (st1.rep w₀ hr) .nil) _ fun v F2 s2 st2 rv => ?_)
  show wpAny _ A.in1 (updateSeq S (·.push v) >>= _) _ _ s2
  have hS1 : h'.get? S = some (lobj acc c) := (hk'.2 S hSI).trans hS
  have hS2 := st2.keep S _ hS1 xS
  have nS2 : ¬ F2 S := st2.notF J.nS hS1
  obtain ⟨oI,gI⟩ := (Dw A.in1.in1 bud.hd).live _ _ hit'
  have nI2 : ¬ F2 I := st2.notF J.nI gI
  have oth : ∀ b o,b ≠ S → s2.heap.get? b = some o → (s2.heap.update S (Obj.mapSeq (·.push v))).get? b = some o := fun b o hb e => (Heap.get?_update_other _ _ (Ne.symm hb)).trans e
  have st3 := (st1.trans st2).kept ok w₀ (wr := (· = S)) (fun b hb => by subst hb; exact ⟨nS,nS2⟩) s2.toks oth
  have r1 : RepL cx.T F h' acc.toList (outs.take j) := J.rep.mono (fun _ h => h) fun b o f e => (hk'.2 b (fun q => J.nI (q ▸ f))).trans e
  have r2 := (st2.repL st1.wd r1).append (.cons rv .nil)
  have r3 : RepL cx.T F2 (s2.heap.update S (Obj.mapSeq (·.push v))) (acc.push v).toList (outs.take (j + 1)) := by
   rw [Array.toList_push,List.take_add_one,List.getElem?_eq_getElem hlo]
   exact r2.mono (fun _ h => h) fun b o f e => oth b o (fun q => nS2 (q ▸ f)) e
  have zj : acc.size ≤ lim := by rw [J.sz]; exact Nat.le_trans hj hl
  refine wb (wpAny_updateSeq hS2 rfl (wpAny_pure ⟨plainId_quiet PySem.F.plain_extend_loop _,ih (j + 1) F2 _ (acc.push v) (by rw [Nat.sub_succ,hk]; rfl) hlt ⟨st3,(Dw A.in1.in1 bud.hd).frame _ _ _ hit' (List.forall_mem_cons.mpr ⟨fun o e => oth I o (Ne.symm hSI) (st2.keep I o e xI),List.forall_mem_cons.mpr ⟨fun o e => oth a o (Ne.symm hSa) (st2.keep a o e xa),fun _ h => nomatch h⟩⟩),oth M _ (Ne.symm hSM) (st2.keep M _ ((hk'.2 M hMI).trans J.hm) xM),⟨kt,oth t _ (Ne.symm hSt) (st2.keep t _ ((hk'.2 t htI).trans ht) xt)⟩,⟨_,Heap.get?_update_self _ hS2 rfl⟩,r3,by rw [Array.size_push,J.sz],nI2,nS2⟩ hR⟩) (zaB zj) (by rw [Array.size_push]; exact Nat.succ_le_succ (zaB zj)))
theorem zlC {n : Nat} {A : Around} (b : BudE n A) : Bud n A.in1.in1.in1.in1 := ⟨b.hd,b.dp,by have := b.sl; show A.units + 1 + 1 + 1 + 1 + 10 * n + 200 < 9900; omega,b.fs⟩
set_option genInjectivity false in
structure MapS (cx : XCx) (F : AP) (s : Shared) (a : Addr) (vs : List Value) (f : Value) (M : Addr) (s₁ : Shared) : Prop where
 st : Step cx F s F s₁
 ex : ∃ I t St,I < M ∧ t < M ∧ t ≠ I ∧ s.heap.get? I = none ∧ s.heap.get? t = none ∧ s.heap.get? M = none ∧ DrawsOf cx I a vs St ∧ St 0 s₁.heap ∧ s₁.heap.get? M = some (mobj t f) ∧ ∃ k,s₁.heap.get? t = some (tobj #[.ref I] k)
theorem zf5 (ok : CxOk cx) {F : AP} {s : Shared} (w : Wd cx F s) {a : Addr} {vs : List Value} {o : Obj} {f : Value} (g : s.heap.get? a = some o) (c : String) {St : Nat → Heap → Prop} (Dw : DrawsOf cx s.heap.objs.size a vs St) (h0 : St 0 (mapH3 c s.heap a f)) :
  MapS cx F s a vs f (mapH2 c s.heap a).objs.size { s with heap := mapH3 c s.heap a f } := by
 refine ⟨Step.grown ok w s.toks fun _ _ e => Heap.get?_push_of_some _ (Heap.get?_push_of_some _ (Heap.get?_push_of_some _ e)),s.heap.objs.size,(mapH1 c s.heap a).objs.size,St, ?_, ?_, ?_,zaz _, ?_, ?_,Dw,h0, ?_,0, ?_⟩
 ·show s.heap.objs.size < (mapH2 c s.heap a).objs.size
  rw [Heap.size_push,Heap.size_push]; exact Nat.lt_succ_of_lt (Nat.lt_succ_self _)
 ·have e := Heap.size_push (mapH1 c s.heap a) ({ cls := .type "tuple",data := .seq #[.ref s.heap.objs.size] } : Obj)
  show (mapH1 c s.heap a).objs.size < ((mapH1 c s.heap a).push _).objs.size
  rw [e]; exact Nat.lt_succ_self _
 ·rw [Heap.size_push]; exact Nat.succ_ne_self _
 ·cases e : s.heap.get? (mapH1 c s.heap a).objs.size with
  | none => rfl
  | some o => have := Heap.lt_size e; rw [Heap.size_push] at this; exact absurd this (Nat.not_lt.mpr (Nat.le_succ _))
 ·cases e : s.heap.get? (mapH2 c s.heap a).objs.size with
  | none => rfl
  | some o => have := Heap.lt_size e; rw [Heap.size_push,Heap.size_push] at this; exact absurd this (Nat.not_lt.mpr (Nat.le_succ_of_le (Nat.le_succ _)))
 ·exact Heap.get?_push_size _ rfl
 ·exact Heap.get?_push_of_some _ (Heap.get?_push_size _ rfl)
theorem zkR (ok : CxOk cx) {A : Around} {F : AP} {s : Shared} (w : Wd cx F s) {a : Addr} {vs : List Value} {n : Nat} {f : Value} (g : s.heap.get? a = some (lobj vs.toArray n)) {Q E : VP}
  (hQ : ∀ M s₁,MapS cx F s a vs f M s₁ → Q (.ref M) s₁) : wpAny (model cx.prog cx.w) A (call (.type "map") [f,.ref a]) Q E s :=
 zfG g (hQ _ _ (zf5 ok w g "list_iterator" (fun A' hh => Draws.list hh _ a (Nat.ne_of_lt (Heap.lt_size g)) vs.toArray) ⟨⟨_,Heap.get?_push_of_some _ (Heap.get?_push_of_some _ (Heap.get?_push_size _ rfl)),rfl,rfl⟩,zaI (Heap.get?_push_of_some _ (Heap.get?_push_of_some _ (Heap.get?_push_of_some _ g)))⟩))
theorem zjl (ok : CxOk cx) {A : Around} {F : AP} {s : Shared} (w : Wd cx F s) {a : Addr} {vs : List Value} {n : Nat} {f : Value} (g : s.heap.get? a = some (tobj vs.toArray n)) {Q E : VP}
  (hQ : ∀ M s₁,MapS cx F s a vs f M s₁ → Q (.ref M) s₁) : wpAny (model cx.prog cx.w) A (call (.type "map") [f,.ref a]) Q E s :=
 zgm g (hQ _ _ (zf5 ok w g "tuple_iterator" (fun A' hh => zlc hh _ a (Nat.ne_of_lt (Heap.lt_size g)) vs.toArray) ⟨⟨_,Heap.get?_push_of_some _ (Heap.get?_push_of_some _ (Heap.get?_push_size _ rfl)),rfl,rfl⟩,⟨_,Heap.get?_push_of_some _ (Heap.get?_push_of_some _ (Heap.get?_push_of_some _ g)),rfl,n,rfl⟩⟩))
theorem zgV (ok : CxOk cx) {i n : Nat} {cf : CfT} (calls : CallOK cx n cf) {A : Around} (bud : Bud n A.in1.in1) {F : AP} {s s₁ : Shared} (w : Wd cx F s) {a M : Addr} {vs : List Value} {items outs : List D} {oa : Obj} (ga : s.heap.get? a = some oa) (xa : ¬ cx.X a) (ho : items.map (fun d => cf i [d]) = outs.map some) (hq : RepL cx.T F s.heap vs items) (hl : vs.length ≤ lim)
  (J : MapS cx F s a vs (.ref (cx.fa i)) M s₁) {Q : List Value → Shared → Prop} {E : VP} (hQ : ∀ vs' F' s',Step cx F s F' s' → RepL cx.T F' s'.heap vs' outs → vs'.length ≤ lim → Q vs' s') : wpAny (model cx.prog cx.w) A (collect (.ref M)) Q E s₁ := by
 obtain ⟨I,t,St,hIM,htM,htI,nI,nt,nM,Dw,hit,hm,kt,ht⟩ := J.ex
 have hT : s₁.TypeIs (.ref M) "map" := ⟨_,hm,rfl⟩
 have xM := w.newNotX nM
 have xt := w.newNotX nt
 have hMS : M < s₁.heap.objs.size := Heap.lt_size hm
 have hSM : s₁.heap.objs.size ≠ M := Nat.ne_of_gt hMS
 have hSI : s₁.heap.objs.size ≠ I := Nat.ne_of_gt (Nat.lt_trans hIM hMS)
 have hSt : s₁.heap.objs.size ≠ t := Nat.ne_of_gt (Nat.lt_trans htM hMS)
 have hSa : s₁.heap.objs.size ≠ a := Nat.ne_of_gt (Heap.lt_size (J.st.keep a _ ga xa))
 have nS : s.heap.get? s₁.heap.objs.size = none := J.st.fresh (J.st.wd.newNotX (zaz _)) (zaz _)
 unfold collect
 refine wb (wpAny_runValue (codeAny_builtin PySem.F.entry_proto_collect ?_))
 rw [Around.under_plainId PySem.F.plain_proto_collect _]
 show wpAny _ A.in1 (newList [] >>= fun l => again (.builtin "list.__iadd__" ⟨[l,.ref M],[]⟩)) _ _ s₁
 refine wb (wpAny_newObj_type ?_)
 refine wpAny_pure ⟨plainId_quiet PySem.F.plain_list_iadd _,codeAny_builtin PySem.F.entry_list_iadd ?_⟩
 rw [Around.under_plainId PySem.F.plain_list_iadd _]
 show wpAny _ A.in1 (Builtin.List.listExtendWith (.ref s₁.heap.objs.size) (.ref M) (.ref s₁.heap.objs.size)) _ _ _
 unfold Builtin.List.listExtendWith
 have st1 := J.st.trans (Step.push ok J.st.wd ({ cls := .type "list",data := .seq ([] : List Value).toArray } : Obj) s₁.toks)
 have hm1 : (s₁.heap.push { cls := .type "list",data := .seq ([] : List Value).toArray }).get? M = some (mobj t (.ref (cx.fa i))) := Heap.get?_push_of_some _ hm
 have hT1 : Shared.TypeIs { s₁ with heap := s₁.heap.push { cls := .type "list",data := .seq ([] : List Value).toArray } } (.ref M) "map" := ⟨_,hm1,rfl⟩
 refine wb (wpAny_typeOf hT1 ?_)
 have h1 : Builtin.List.listSameRef (.ref s₁.heap.objs.size) (.ref M) = false := by simp [Builtin.List.listSameRef,hSM]
 have h2 : (Value.type "map" == Value.type "list") = false := by decide
 have h3 : (Value.type "map" == Value.type "tuple") = false := by decide
 simp only [h1,h2,h3,Bool.or_false,Bool.false_eq_true,if_false]
 refine wb (zh1 hm1 ?_)
 refine wb (wpAny_holding ?_)
 unfold Builtin.List.listLengthHint
 refine wb (wpAny_specialOf hT1 zh6 ?_)
 show wpAny _ A.in1 (specialOf (Value.ref M) (Str.ofString "__length_hint__") >>= _) _ _ _
 refine wb (wpAny_specialOf hT1 zgU ?_)
 refine wpAny_pure ?_
 show wpAny _ A.in1 (rule "list.extend.makes-room" >>= fun _ => Builtin.List.listTouch (.ref s₁.heap.objs.size) >>= fun _ =>
  again (.builtin "list.extend.loop" ⟨[.ref s₁.heap.objs.size,.ref M,.ref s₁.heap.objs.size],[]⟩)) _ _ _
 refine wb (wpAny_rule ?_)
 have hS₁ : (s₁.heap.push { cls := .type "list",data := .seq ([] : List Value).toArray }).get? s₁.heap.objs.size = some { cls := .type "list",data := .seq ([] : List Value).toArray } := Heap.get?_push_size _ rfl
 refine wb ?_
 show wpAny _ A.in1 (updateSeq s₁.heap.objs.size (·.push .none) >>= fun _ => updateSeq s₁.heap.objs.size (·.pop)) _ _ _
 refine wb (wpAny_updateSeq hS₁ rfl ?_)
 have hS₂ := Heap.get?_update_self (Obj.mapSeq (·.push Value.none)) hS₁ rfl
 refine wpAny_updateSeq hS₂ rfl ?_
 have hS₃ := Heap.get?_update_self (Obj.mapSeq (·.pop)) hS₂ rfl
 have oth : ∀ b o,b ≠ s₁.heap.objs.size → (s₁.heap.push { cls := .type "list",data := .seq ([] : List Value).toArray }).get? b = some o →
   (((s₁.heap.push { cls := .type "list",data := .seq ([] : List Value).toArray }).update s₁.heap.objs.size (Obj.mapSeq (·.push Value.none))).update s₁.heap.objs.size (Obj.mapSeq (·.pop))).get? b = some o :=
  fun b o hb e => (Heap.get?_update_other _ _ (Ne.symm hb)).trans ((Heap.get?_update_other _ _ (Ne.symm hb)).trans e)
 have nFS : ¬ F s₁.heap.objs.size := J.st.wd.newNotF (zaz _)
 have st2 := st1.kept ok w (wr := (· = s₁.heap.objs.size)) (fun b hb => by subst hb; exact ⟨nS,nFS⟩) s₁.toks oth
 have up : ∀ b o,b ≠ s₁.heap.objs.size → s₁.heap.get? b = some o → _ := fun b o hb e => oth b o hb (Heap.get?_push_of_some _ e)
 refine wpAny_pure ⟨plainId_quiet PySem.F.plain_extend_loop _,zkS ok calls bud w Dw ho hq hl (Nat.ne_of_gt hIM) hSI hSM hSt hSa htI nI nS xt xM xa vs.length 0 F _ #[] rfl (Nat.zero_le _) ⟨st2,(Dw A bud.hd).frame _ _ _ hit (List.forall_mem_cons.mpr ⟨fun o e => up I o (Ne.symm hSI) e,List.forall_mem_cons.mpr ⟨fun o e => up a o (Ne.symm hSa) e,fun _ h => nomatch h⟩⟩),up M _ (Ne.symm hSM) hm,⟨kt,up t _ (Ne.symm hSt) ht⟩,⟨_,hS₃⟩,.nil,rfl,w.newNotF nI,nFS⟩ fun F' s' acc' c' st' hS' hr hz => ?_⟩
 show wpAny _ A (load s₁.heap.objs.size >>= _) _ _ s'
 refine wb (wpAny_load hS' ?_)
 exact wpAny_pure (hQ _ F' s' st' hr (by rw [Array.length_toList]; exact hz))
theorem zfN (ok : CxOk cx) {i n : Nat} {cf : CfT} (calls : CallOK cx n cf) {A : Around} (bud : Bud n A.in1.in1.in1.in1) {F : AP} {s s₁ : Shared} (w : Wd cx F s) {a M : Addr} {vs : List Value} {items outs : List D} {oa : Obj} (ga : s.heap.get? a = some oa) (xa : ¬ cx.X a) (ho : items.map (fun d => cf i [d]) = outs.map some) (hq : RepL cx.T F s.heap vs items) (hl : vs.length ≤ lim)
  (J : MapS cx F s a vs (.ref (cx.fa i)) M s₁) {Q E : VP} (hQ : Post cx F s (.val (.tup outs)) Q) : wpAny (model cx.prog cx.w) A (call (.type "tuple") [.ref M]) Q E s₁ := by
 refine callType_codes (Q₁ := fun obj s₂ => s₂.TypeIs obj "tuple" ∧ Q obj s₂) PySem.F.called_tuple (PySem.F.typeCall_tuple_1 _) PySem.F.entry_object_init ?_ fun obj s₂ h₂ => ⟨h₂.1,PySem.F.args_object_init_2 obj _,object_init_meets PySem.F.called_tuple.init.lookup PySem.F.called_tuple.made (by decide) _ _ A.in1 _ s₂ ⟨h₂.1,rfl,h₂.2⟩⟩
 refine codeAny_of_tree ?_
 show wpAny _ A.in1.in1 (do checkBuiltinCall "tuple.__new__" ⟨[.type "tuple",.ref M],[]⟩; again (.builtin "tuple.__new__" ⟨[.type "tuple",.ref M],[]⟩)) _ _ s₁
 refine wb (wpAny_of_eq (PySem.F.newCall_tuple_1 _) (wpAny_pure ⟨plainId_quiet PySem.F.plain_tuple_new _,codeAny_builtin PySem.F.entry_tuple_new ?_⟩))
 rw [Around.under_plainId PySem.F.plain_tuple_new _]
 have hsub := sub_tuple_self
 have hinit := init_tuple_lookup
 have hmh := madeHere_tuple
 have hTI : s₁.TypeIs (.ref M) "map" := by
  obtain ⟨I,t,_,_,_,_,_,_,_,_,_,hm,_⟩ := J.ex
  exact ⟨_,hm,rfl⟩
 wp_walk using wpAny_typeOf hTI,zgV ok calls bud w ga xa ho hq hl J
 intro vs' F' s' st' hr hz
 show wpAny _ _ (Builtin.Tuple.tupleExact vs'.toArray >>= fun v => ret v) _ _ _
 unfold Builtin.Tuple.tupleExact
 obtain ⟨F3,st3,r⟩ := zfl ok st'.wd s'.toks hz hr
 refine wb (wpAny_newObj_type ?_ (by show vs'.toArray.size ≤ sizeLine; rw [List.size_toArray]; exact zaB hz))
 exact wpAny_pure ⟨⟨_,Heap.get?_push_size _ rfl,rfl⟩,hQ _ F3 _ (st'.trans st3) (.val r)⟩
theorem zdt {α : Type} : ∀ {l : List (Option α)} {o : List α},allSome l = some o → l = o.map some
 | [],o,h => by (injection h with h; subst h); rfl
 | none :: l,o,h => by injection h
 | some a :: l,o,h => by
  obtain ⟨r,h1,rfl⟩ := Option.map_eq_some_iff.mp (show (allSome l).map (a :: ·) = some o from h)
  rw [List.map_cons, ← zdt h1]
theorem zhT {f : Str} {i : Nat} {p p' p'' pos' pos : Pos} {e : Expr} {x : X} (hk : ε.kinds.lookup ("tuple" : Str) = some .globalImplicit) (hg : cx.mg ("tuple" : Str) = none) (hk' : ε.kinds.lookup ("map" : Str) = some .globalImplicit) (hg' : cx.mg ("map" : Str) = none) (hkf : ε.kinds.lookup f = some .globalImplicit) (hvf : cx.mg f = some (.ref (cx.fa i))) (hd : (f == ("__debug__" : Str)) = false) (h : Sound cx ε e x) (hs : starred e = false) :
  Sound cx ε (.Call (.Name "tuple" p) [.Call (.Name "map" p') [.Name f p'',e] [] pos'] [] pos) (.mapF i x) := by
 refine Sound.ofE ?_ fun _ => rfl
 intro n cf A env F s ρ ad m cm H res he Q E hQ
 obtain ⟨r,items,outs,e1,e2,ho,rfl⟩ : ∃ r items outs,ev cf x ρ = some [r] ∧ (r.ds = .list items ∨ r.ds = .tup items) ∧ items.map (fun d => cf i [d]) = outs.map some ∧ res = .val (.tup outs) := by
  replace he := (zbn _).symm.trans he
  split at he
  ·rename_i r e1
   split at he
   ·rename_i items e2
    obtain ⟨l,e7,e8⟩ := Option.map_eq_some_iff.mp he
    (injection e8 with e8 z; injection z; subst e8)
    exact ⟨r,items,l,e1,.inl e2,zdt e7,rfl⟩
   ·rename_i items e2
    obtain ⟨l,e7,e8⟩ := Option.map_eq_some_iff.mp he
    (injection e8 with e8 z; injection z; subst e8)
    exact ⟨r,items,l,e1,.inr e2,zdt e7,rfl⟩
   ·injection he
  ·injection he
 rw [zaw (by intro _ _ _ e; injection e)]
 refine wb (zaS H hk hg (by decide) (v := .type "tuple") (by rfl) (by decide) ?_)
 rw [zao rfl,zav]
 refine PyProof.Rows.callWith_type rfl (Calls.evalArgs_plain (Calls.spliced_cons ?_))
 rw [zaw (by intro _ _ _ e; injection e)]
 refine wb (zaS H hk' hg' (by decide) (v := .type "map") (by rfl) (by decide) ?_)
 rw [zao rfl,zav]
 refine PyProof.Rows.callWith_type (by rw [zao hs,zav]; rfl) (Calls.evalArgs_plain (Calls.spliced_cons ?_))
 refine zbO H hkf hvf hd ?_
 rw [zao hs,zav]
 refine Calls.spliced_cons ?_
 refine h.ev n cf A env F s ρ ad m cm H r e1 _ _ fun v F' s' st q => ?_
 refine Calls.spliced_nil ?_
 have qb := q.brep
 rcases e2 with e2 | e2
 ·rw [e2] at qb
  obtain ⟨a,vs,k,rfl,nx,g,z,ql⟩ := qb.list_inv st.wd
  refine zkR H.ok st.wd g fun M s₁ J => Calls.spliced_nil ?_
  exact zfN H.ok H.calls (zlC H.bud) st.wd g nx ho ql z J fun v F3 s3 st3 rr => hQ v F3 s3 (st.trans st3) (rr.low st)
 ·rw [e2] at qb
  cases qb with
  | rep q =>
   cases q with
   | @tup a vs k _ f g z ql =>
    refine zjl H.ok st.wd g fun M s₁ J => Calls.spliced_nil ?_
    exact zfN H.ok H.calls (zlC H.bud) st.wd g (st.wd.nx _ f) ho ql z J fun v F3 s3 st3 rr => hQ v F3 s3 (st.trans st3) (rr.low st)
end
end Mine
end
section
open PySem PySem.Calls PyProof.Rows PySem.Builtin.Str PySem.SeqAt
namespace Mine
noncomputable def hashB (b : Bool) : Int := if b then 1 else 0
section
variable {prog : Program} {w : World} {A : Around} {E : VP} {s : Shared}
theorem zd8 {b : Bool} {Q : Int → Shared → Prop} (h : Q (hashB b) { s with toks := s.toks + 1 }) : wpAny (model prog w) A (pyHash (.bool b)) Q E s := by
 have hT : s.TypeIs (.bool b) "bool" := rfl
 unfold pyHash
 have hv : [Value.bool b].any Value.onHeap = false := rfl
 refine wb ?_
 rw [cRoomFor,if_neg (by rw [hv]; exact Bool.false_ne_true)]; refine wpAny_pure ?_
 refine wb (wpAny_specialOf hT PySem.F.slot_bool_hash.lookup ?_)
 show wpAny _ _ (if (some (Value.builtin "int.__hash__") == some Value.none) = true then _ else _) Q E s
 rw [if_neg (by rw [beq_builtin_none]; exact Bool.false_ne_true)]
 refine wb (wpAny_specialOf hT PySem.F.slot_bool_hash.lookup ?_)
 show wpAny _ _ (callSpecialIfBoundUnlessNone? (.bool b) "__hash__" _ >>= _) Q E s
 refine wb (wpAny_callSpecialIfBoundUnlessNone?_slot hT PySem.F.slot_bool_hash (wpAny_call_entry PySem.F.slot_bool_hash hT entry_int_hash ?_ (args_int_hash _)))
 cases b with
 | true =>
  show wpAny _ _ (do ret (← mkInt 1)) _ _ s
  exact wpAny_ret_mkInt (wpAny_pure h)
 | false =>
  show wpAny _ _ (do ret (← mkInt 0)) _ _ s
  exact wpAny_ret_mkInt (wpAny_pure h)
end
noncomputable def sT (led b : Bool) : SetTable := (layNew (SetTable.fresh 0 0 led) #[] (hashB b) (.bool b)).2.1
noncomputable def sObj0 (led : Bool) : Obj := { cls := .type "set",dict := none,data := .set #[] 0 (.fresh 0 0 led) }
noncomputable def sObj1 (led b : Bool) : Obj := { cls := .type "set",dict := none,data := .set #[(hashB b,.bool b)] 1 (sT led b) }
theorem sT_lay (led b : Bool) : layNew (SetTable.fresh 0 0 led) #[] (hashB b) (.bool b) = (#[(hashB b,.bool b)],sT led b,false,false) := by
 cases led <;> cases b <;> kernel_rfl
theorem zcO (led b : Bool) : (sT led b).fits 1 = true := by cases led <;> cases b <;> kernel_rfl
theorem zdT (led b : Bool) : (sT led b).plain = true := by cases led <;> cases b <;> kernel_rfl
theorem sT_full (led b : Bool) : (sT led b).tooFull = false := by cases led <;> cases b <;> kernel_rfl
theorem zlk (led b : Bool) : (sT led b).led = led := by cases led <;> cases b <;> kernel_rfl
theorem zhn (led b : Bool) : (sT led b).place = #[(sT led b).place.getD 0 0] := by cases led <;> cases b <;> kernel_rfl
theorem scan0 (b : Bool) : byScan (.bool b) #[] = true := by cases b <;> kernel_rfl
theorem scan1 (b : Bool) : byScan (.bool b) #[(hashB b,.bool b)] = true := by cases b <;> kernel_rfl
section
variable {prog : Program} {w : World} {A : Around} {E : VP} {s : Shared}
theorem new_set {Q : VP} (h : Q (.ref s.heap.objs.size) { s with heap := s.heap.push (sObj0 (!w.params.followText "set-order")) }) : wpAny (model prog w) A (newSet (.type "set")) Q E s := by
 unfold newSet setsByText
 refine wb (wb (wpAny_askSetting (wpAny_pure ?_)))
 dsimp only
 simp only [newObj]
 exact wb (wpAny_alloc (wpAny_pure h))
theorem zkd {a : Addr} {led b : Bool} {Q : VP} (g : s.heap.get? a = some (sObj0 led))
  (h : Q .none { s with heap := s.heap.update a (Obj.putSet #[(hashB b,.bool b)] (sT led b)),toks := s.toks + 1 }) : wpAny (model prog w) A (call (.builtin "set.add") [.ref a,.bool b]) Q E s := by
 have hT : s.TypeIs (.ref a) "set" := ⟨_,g,rfl⟩
 refine wpAny_call_entry PySem.F.slot_set_add hT PySem.F.entry_set_add ?_ (PySem.F.args_set_add_2 _ _)
 unfold Builtin.«set.add» Builtin.Frozenset.oneOther
 simp only [List.isEmpty_nil,bind_assoc]
 unfold Builtin.Frozenset.addrOf setAdd
 refine wb (wpAny_pure ?_)
 try dsimp only
 refine wb (wpAny_pure ?_)
 try dsimp only
 refine wb ?_
 refine wpAny_holding ?_
 refine wb (zd8 ?_)
 unfold setAddHashed setAddHashedIn
 have g' : ({ s with toks := s.toks + 1 } : Shared).heap.get? a = some (sObj0 led) := g
 refine wpAny_holding (wb (wpAny_setState_of g' rfl rfl ?_))
 dsimp only
 generalize (99999 : Nat) = fu
 rw [scan0]
 simp only [↓reduceIte]
 unfold setAddByScan
 refine wb ?_
 refine wb (wpAny_rule ?_)
 have e1 : setScan a (.bool b) (hashB b) true #[] = pure ScanMet.absent := rfl
 rw [e1,sT_lay]
 have hp := zdT led b
 have hf := sT_full led b
 have hs : (sT led b).fits 1 = true := zcO led b
 generalize sT led b = t1 at h hp hf hs ⊢
 simp only [pure_bind,hp,if_true]
 refine wb (show wpAny _ _ (pure ()) _ _ _ from wpAny_pure ?_)
 refine wb (show wpAny _ _ (pure true) _ _ _ from wpAny_pure ?_)
 simp only [if_true]
 refine wb (wpAny_storeSet_of g' rfl ?_ (by show 1 ≤ sizeLine; decide))
 simp only [hf,Bool.not_false,Bool.and_false,Bool.false_eq_true,if_false]
 refine wpAny_pure (wpAny_pure ?_)
 show wpAny _ _ (ret Value.none) _ _ _
 exact wpAny_pure ⟨_,rfl,h⟩
theorem zke {a : Addr} {led b : Bool} {Q : VP} (g : s.heap.get? a = some (sObj1 led b)) (h : Q .none { s with toks := s.toks + 1 }) : wpAny (model prog w) A (call (.builtin "set.add") [.ref a,.bool b]) Q E s := by
 have hT : s.TypeIs (.ref a) "set" := ⟨_,g,rfl⟩
 refine wpAny_call_entry PySem.F.slot_set_add hT PySem.F.entry_set_add ?_ (PySem.F.args_set_add_2 _ _)
 unfold Builtin.«set.add» Builtin.Frozenset.oneOther
 simp only [List.isEmpty_nil,bind_assoc]
 unfold Builtin.Frozenset.addrOf setAdd
 refine wb (wpAny_pure ?_)
 try dsimp only
 refine wb (wpAny_pure ?_)
 try dsimp only
 refine wb ?_
 refine wpAny_holding ?_
 refine wb (zd8 ?_)
 unfold setAddHashed setAddHashedIn
 have g' : ({ s with toks := s.toks + 1 } : Shared).heap.get? a = some (sObj1 led b) := g
 have hs := zcO led b
 refine wpAny_holding (wb (wpAny_setState_of g' rfl hs ?_))
 dsimp only
 generalize (99999 : Nat) = fu
 rw [scan1]
 simp only [↓reduceIte]
 unfold setAddByScan
 refine wb ?_
 refine wb (wpAny_rule ?_)
 refine wb (m := setScan a (.bool b) (hashB b) true _) ?_
 show wpAny _ _ (setScanFrom a (.bool b) (hashB b) true [(hashB b,.bool b)] 0) _ _ _
 unfold setScanFrom
 rw [if_pos (beq_self_eq_true _)]
 unfold setEpoch
 refine wb (wb (wpAny_setState_of g' rfl hs (wpAny_pure ?_)))
 refine wb (EqAt.bool_bool b b _ _ _ _ ?_)
 rw [beq_self_eq_true]
 simp only [Bool.and_self,if_true]
 refine wpAny_pure (wpAny_pure (wpAny_pure ?_))
 show wpAny _ _ (ret Value.none) _ _ _
 exact wpAny_pure ⟨_,rfl,h⟩
end
end Mine
end
section
open PySem PySem.Calls PyProof.Rows PySem.Builtin.Str PySem.SeqAt
open AutoSeq1 (wpAny_loadPart')
namespace Mine
theorem zeO : entryFor table "set.__iter__" = some PySem.Builtin.«frozenset.__iter__» :=
 entryFor_alias (id' := "frozenset.__iter__") (by kernel_rfl) rfl (by decide +kernel) (by kernel_rfl)
theorem slot_setit_next : PySem.Slot "set_iterator" "__next__" "set_iterator.__next__" :=
 .of (owner := "set_iterator") (n := "__next__") (by rw [typeLookup_type,builtinLookup_eq_fast]; kernel_rfl) (by decide +kernel) (by decide +kernel) (by decide +kernel)
  (by first | exact .inl (by decide +kernel) | exact .inr (by decide +kernel)) (by rw [isSubtype_type]; kernel_rfl)
theorem zcg : entryFor table "set_iterator.__next__" = some PySem.Builtin.«set_iterator.__next__» := entryFor_of_tree (by kernel_rfl)
theorem zb4 (a : Value) : argsOk "set_iterator.__next__" ⟨[a],[]⟩ := by unfold argsOk; kernel_rfl
noncomputable abbrev itobj (a : Addr) (slot i : Nat) : Obj := { cls := .type "set_iterator",data := .fields #[rawInt slot,rawInt i,.ref a,rawInt 1,rawInt 1] }
section
variable {prog : Program} {w : World} {A : Around} {E : VP} {s : Shared}
theorem zko {a : Addr} {led b : Bool} {Q : VP} (g : s.heap.get? a = some (sObj1 led b)) (h : Q (.ref s.heap.objs.size) { s with heap := s.heap.push (itobj a 0 0) }) : wpAny (model prog w) A (pyIter (.ref a)) Q E s := by
 have hT : s.TypeIs (.ref a) "set" := ⟨_,g,rfl⟩
 have hs := zcO led b
 have hp := zdT led b
 refine wpAny_pyIter_slot hT PySem.F.slot_set_iter (wpAny_call_entry PySem.F.slot_set_iter hT zeO ?_ (PySem.F.args_set_iter_1 _))
 unfold Builtin.«frozenset.__iter__» Builtin.Frozenset.slot0 slotArgs
 simp only [List.isEmpty_nil,Bool.not_true,Bool.false_eq_true, ↓reduceIte,bind_assoc,List.length_nil,bne_self_eq_false]
 unfold Builtin.Frozenset.addrOf Builtin.Frozenset.sizeOf
 refine wb (wpAny_pure ?_)
 try dsimp only
 refine wb (wpAny_pure ?_)
 refine wb (wb (wpAny_setEntries_of g rfl hs (wpAny_pure ?_)))
 unfold setDrawn
 refine wb (wb (wpAny_setState_of g rfl hs ?_))
 dsimp only
 unfold setsByText
 refine wb (wb (wpAny_askSetting (wpAny_pure ?_)))
 refine wpAny_pure ?_
 have hdr : ∀ c : Bool, ¬ (!c && (!(sT led b).plain && decide (1 > 1))) = true := fun c => by rw [hp]; cases c <;> decide
 show wpAny _ _ (if (!w.params.followText "set-order" && (!(sT led b).plain && decide (1 > 1))) = true then _ else _) _ _ _
 rw [if_neg (hdr _)]
 refine wb (wpAny_pure ?_)
 unfold setEpoch
 refine wb (wb (wpAny_setState_of g rfl hs (wpAny_pure ?_)))
 unfold newFields
 refine wb (wpAny_newObj_type ?_)
 exact wpAny_pure ⟨_,rfl, "set_iterator",_,⟨_,Heap.get?_push_size _ rfl,rfl⟩,slot_setit_next.lookup,h⟩
theorem pick1 {α : Type} (f : Nat → Nat) (x : α) : pickOrder f #[x] = #[x] := by
 show pickOrder.go f 1 0 [x] #[] = #[x]
 unfold pickOrder.go
 rw [show [x][f 0 % [x].length]? = some x by rw [show [x].length = 1 from rfl,Nat.mod_one]; rfl]
 rfl
noncomputable def slotB (w : World) (led b : Bool) : Nat := if w.params.followText "set-order" = true then 0 else (sT led b).place.getD 0 0 + 1
theorem below0 (p : Nat) : SetTable.below #[p] 0 = 0 := rfl
theorem below1 (p : Nat) : SetTable.below #[p] (p + 1) = 1 := by
 show SetTable.below.go #[p] (p + 1) 1 0 1 = 1
 unfold SetTable.below.go
 simp [SetTable.below.go]
theorem ziQ {a : Addr} {led b : Bool} {Q : Option (Value × Nat) → Shared → Prop} (hl : led = !w.params.followText "set-order") (g : s.heap.get? a = some (sObj1 led b)) (h : Q (some (.bool b,slotB w led b)) s) : wpAny (model prog w) A (setNext a 0 0 1) Q E s := by
 have hs := zcO led b
 unfold setNext
 refine wb (wpAny_setState_of g rfl hs ?_)
 dsimp only
 unfold setsByText
 refine wb (wb (wpAny_askSetting (wpAny_pure ?_)))
 unfold slotB at h
 have hpl := zlk led b
 have hpp := zdT led b
 cases hb : w.params.followText "set-order" with
 | true =>
  rw [hb] at h
  show wpAny _ _ (if w.params.followText "set-order" = true then _ else _) _ _ _
  rw [if_pos hb]
  rw [if_neg (by decide)]
  unfold setWalk
  refine wb (wb (wpAny_setState_of g rfl hs ?_))
  dsimp only
  unfold setsByText
  refine wb (wb (wpAny_askSetting (wpAny_pure ?_)))
  show wpAny _ _ (if w.params.followText "set-order" = true then _ else _) _ _ _
  rw [if_pos hb]
  refine wb (wpAny_askSetting (wpAny_pure ?_))
  rw [pick1]
  exact wpAny_pure h
 | false =>
  rw [hb] at h hl
  show wpAny _ _ (if w.params.followText "set-order" = true then _ else _) _ _ _
  rw [if_neg (by rw [hb]; decide)]
  have hd : ¬ (!(sT led b).plain && decide (1 > 1)) = true := by rw [hpp]; decide
  show wpAny _ _ (if (!(sT led b).plain && decide (1 > 1)) = true then _ else _) _ _ _
  rw [if_neg hd]
  have hm : ¬ (!(sT led b).led && !false) = true := by rw [hpl,hl]; decide
  refine wb (show wpAny _ _ (if (!(sT led b).led && !false) = true then _ else pure ()) _ _ _ from ?_)
  rw [if_neg hm]
  refine wpAny_pure ?_
  have hp := zhn led b
  generalize (sT led b).place.getD 0 0 = p at hp h
  rw [hp,below0]
  exact wpAny_pure h
theorem ziP {a : Addr} {led b : Bool} {Q : Option (Value × Nat) → Shared → Prop} (hl : led = !w.params.followText "set-order") (g : s.heap.get? a = some (sObj1 led b)) (h : Q none s) : wpAny (model prog w) A (setNext a (slotB w led b) 1 1) Q E s := by
 have hs := zcO led b
 unfold setNext
 refine wb (wpAny_setState_of g rfl hs ?_)
 dsimp only
 unfold setsByText
 refine wb (wb (wpAny_askSetting (wpAny_pure ?_)))
 unfold slotB
 have hpl := zlk led b
 have hpp := zdT led b
 cases hb : w.params.followText "set-order" with
 | true =>
  show wpAny _ _ (if w.params.followText "set-order" = true then _ else _) _ _ _
  rw [if_pos hb]
  rw [if_neg (by decide)]
  unfold setWalk
  refine wb (wb (wpAny_setState_of g rfl hs ?_))
  dsimp only
  unfold setsByText
  refine wb (wb (wpAny_askSetting (wpAny_pure ?_)))
  show wpAny _ _ (if w.params.followText "set-order" = true then _ else _) _ _ _
  rw [if_pos hb]
  refine wb (wpAny_askSetting (wpAny_pure ?_))
  rw [pick1]
  exact wpAny_pure h
 | false =>
  rw [hb] at hl
  show wpAny _ _ (if w.params.followText "set-order" = true then _ else _) _ _ _
  rw [if_neg (by rw [hb]; decide)]
  have hd : ¬ (!(sT led b).plain && decide (1 > 1)) = true := by rw [hpp]; decide
  show wpAny _ _ (if (!(sT led b).plain && decide (1 > 1)) = true then _ else _) _ _ _
  rw [if_neg hd]
  have hm : ¬ (!(sT led b).led && !false) = true := by rw [hpl,hl]; decide
  refine wb (show wpAny _ _ (if (!(sT led b).led && !false) = true then _ else pure ()) _ _ _ from ?_)
  rw [if_neg hm]
  refine wpAny_pure ?_
  have hp := zhn led b
  generalize (sT led b).place.getD 0 0 = p at hp ⊢
  rw [hp]
  simp only [Bool.false_eq_true,if_false,below1]
  exact wpAny_pure h
theorem zkp {a it : Addr} {led b : Bool} {Q : Option Value → Shared → Prop} (hl : led = !w.params.followText "set-order") (g : s.heap.get? a = some (sObj1 led b)) (hit : s.heap.get? it = some (itobj a 0 0))
  (h : ∀ h',Heap.SameBut it s.heap h' → h'.get? it = some (itobj a (slotB w led b) 1) → Q (some (.bool b)) { s with heap := h' }) : wpAny (model prog w) A (pyNext (.ref it)) Q E s := by
 have hT : s.TypeIs (.ref it) "set_iterator" := ⟨_,hit,rfl⟩
 have hs := zcO led b
 unfold pyNext
 refine wb (wpAny_attempt (wpAny_callSpecial?_slot (name := Str.ofString "__next__") hT slot_setit_next (wpAny_call_entry slot_setit_next hT zcg ?_ (zb4 _))))
 show wpAny _ _ (fieldsOf (.ref it) >>= _) _ _ _
 refine wb (wpAny_fieldsOf hit rfl ?_)
 show wpAny _ _ (setEntries a >>= _) _ _ _
 refine wb (wpAny_setEntries_of g rfl hs ?_)
 show wpAny _ _ (setNext a 0 0 1 >>= _) _ _ _
 refine wb (ziQ hl g ?_)
 show wpAny _ _ (setField (.ref it) 0 (rawInt (slotB w led b)) >>= _) _ _ _
 refine wb (wpAny_setField_rec hit (by simp) fun h₁ hit₁ hs₁ => ?_)
 replace hs₁ : Heap.SameBut it s.heap h₁ := hs₁
 replace hit₁ : h₁.get? it = some (itobj a (slotB w led b) 0) := hit₁
 show wpAny _ _ (setField (.ref it) 1 (rawInt 1) >>= _) _ _ { s with heap := h₁ }
 refine wb (wpAny_setField_rec hit₁ (by simp) fun h₂ hit₂ hs₂ => ?_)
 replace hs₂ : Heap.SameBut it h₁ h₂ := hs₂
 exact wpAny_pure ⟨_,rfl,wpAny_pure (h h₂ (hs₁.trans hs₂) hit₂)⟩
theorem set_end {a it : Addr} {led b : Bool} {Q : Option Value → Shared → Prop} (hh : A.handled = none) (hl : led = !w.params.followText "set-order") (g : s.heap.get? a = some (sObj1 led b)) (hit : s.heap.get? it = some (itobj a (slotB w led b) 1))
  (h : ∀ h',Heap.ExtBut it s.heap h' → Q none { s with heap := h' }) : wpAny (model prog w) A (pyNext (.ref it)) Q E s := by
 have hT : s.TypeIs (.ref it) "set_iterator" := ⟨_,hit,rfl⟩
 have hs := zcO led b
 unfold pyNext
 refine wb (wpAny_attempt (wpAny_callSpecial?_slot (name := Str.ofString "__next__") hT slot_setit_next (wpAny_call_entry slot_setit_next hT zcg ?_ (zb4 _))))
 show wpAny _ _ (fieldsOf (.ref it) >>= _) _ _ _
 refine wb (wpAny_fieldsOf hit rfl ?_)
 show wpAny _ _ (setEntries a >>= _) _ _ _
 refine wb (wpAny_setEntries_of g rfl hs ?_)
 show wpAny _ _ (setNext a (slotB w led b) 1 1 >>= _) _ _ _
 refine wb (ziP hl g ?_)
 show wpAny _ _ (setField (.ref it) 2 .none >>= _) _ _ _
 refine wb (wpAny_setField_rec hit (by simp) fun h₁ hit₁ hs₁ => ?_)
 show wpAny _ _ (newExc (.type "StopIteration") [] >>= _) _ _ _
 refine wb ?_
 simp only [newExc,newTuple]
 refine wb (wpAny_newObj_type ?_ (by size_fits))
 refine wb (m := firstArgMember _ _) (wpAny_of_eq (a := Value.none) (by first | rfl | (simp only [firstArgMember]; rfl)) ?_)
 refine wpAny_newObj_type ?_ (by size_fits)
 simp only [raiseNew]
 refine wb (wpAny_handled ?_)
 first | rw [show A.in1.handled = none from hh] | rw [hh]
 refine wb (wpAny_pure (wpAny_throw ?_))
 refine wb (wpAny_isInstance (T := "StopIteration") (b := true) ⟨_,Heap.get?_push_size _ rfl,rfl⟩ isSubtype_stop ?_)
 exact wpAny_pure (h _ ((hs₁.extBut.push _).push _))
end
end Mine
end
section
open PySem PySem.Calls PyProof.Rows PySem.Builtin.Str
namespace Mine
theorem zgj (elt target iter : Expr) (ifs : List Expr) (scope : Scope) (pos : Pos) (it acc : Value) (env : Env) :
  compTurn (.SetComp elt [⟨target,iter,ifs,0⟩] scope pos) 0 it acc env = (do
   standAt iter.pos
   match ← pyNext it with
   | none => pure (.done .next)
   | some v =>
    letOwnedTupleGo target it v
    assign target env v
    let mut ok := true
    for c in ifs do
     if ok then ok ← isTrue c env (eval c env)
    if ok then
     (do let v ← eval elt env; standAt elt.pos; let _ ← call (.builtin "set.add") [acc,v])
    again (.compLoop (.SetComp elt [⟨target,iter,ifs,0⟩] scope pos) 0 it acc env)) := by rfl
theorem zgH {prog : Program} {w : World} {A : Around} {R : Result → Shared → Prop} {s : Shared} {elt target iter : Expr} {ifs : List Expr} {scope : Scope} {pos : Pos} {it acc : Value} {env : Env} (I : Nat → Shared → Prop)
  (turn : ∀ n s,I n s → wpAny (model prog w) A (pyNext it) (fun r s₁ => match r with
   | none => R (.ok .next) s₁
   | some v => wpAny (model prog w) A (letOwnedTupleGo target it v) (fun _ s₁' => wpAny (model prog w) A (assign target env v) (fun _ s₂ =>
     wpAny (model prog w) A (forIn ifs true fun c r => if r = true then do let ok ← isTrue c env (eval c env); pure (ForInStep.yield ok) else pure (ForInStep.yield r)) (fun ok s₃ =>
      if ok = true then wpAny (model prog w) A (eval elt env) (fun x s₄ =>
       wpAny (model prog w) A (call (.builtin "set.add") [acc,x]) (fun _ s₅ => ∃ m,m < n ∧ I m s₅) (notedBy (model prog w) A env fun e s' => R (.error e) s') s₄) (notedBy (model prog w) A env fun e s' => R (.error e) s') s₃
      else ∃ m,m < n ∧ I m s₃) (notedBy (model prog w) A env fun e s' => R (.error e) s') s₂) (notedBy (model prog w) A env fun e s' => R (.error e) s') s₁') (notedBy (model prog w) A env fun e s' => R (.error e) s') s₁) (notedBy (model prog w) A env fun e s' => R (.error e) s') s)
  (n : Nat) (h : I n s) :
  codeAny (model prog w) A (.compLoop (.SetComp elt [⟨target,iter,ifs,0⟩] scope pos) 0 it acc env) R s := by
 refine codeAny_loop rfl I (fun n s hI => ?_) n h
 show wpAny _ A ((compTurn (.SetComp elt [⟨target,iter,ifs,0⟩] scope pos) 0 it acc env).onRaise (fun x => do noteFrame x env; theTreesLotGoes x)) _ _ s
 refine wpAny_noted ?_
 rw [zgj]
 refine wb (wpAny_standAt (wb (wpAny_mono (turn n s hI) (fun r s₁ h₁ => ?_) fun _ _ h' => h')))
 cases r with
 | none => exact wpAny_pure h₁
 | some v =>
  refine wb (wpAny_mono h₁ (fun _ s₁' h₁' => ?_) fun _ _ h' => h')
  refine wb (wpAny_mono h₁' (fun _ s₂ h₂ => wb (wpAny_mono h₂ (fun ok s₃ h₃ => ?_) fun _ _ h' => h')) fun _ _ h' => h')
  cases ok with
  | false => exact wpAny_pure ⟨rfl,h₃⟩
  | true =>
   exact wb (wb (wpAny_mono h₃ (fun x s₄ h₄ => wb (wpAny_standAt (wb (wpAny_mono h₄ (fun _ s₅ h₅ => wpAny_pure (wpAny_pure ⟨rfl,h₅⟩)) fun _ _ h' => h')))) fun _ _ h' => h'))
section
variable {prog : Program} {w : World} {A : Around} {R : Result → Shared → Prop} {E : VP} {s : Shared}
theorem zkq {elt target iter : Expr} {ifs : List Expr} {rest : List Comprehension} {scope : Scope} {pos : Pos} {it acc : Value} {env : Env}
  (h0 : codeAny (model prog w) A (.compLoop (.SetComp elt (⟨target,iter,ifs,0⟩ :: rest) scope pos) 0 it acc env) R s)
  (h : wpAny (model prog w) A (pyIter it) (fun it' s' => codeAny (model prog w) A (.compLoop (.SetComp elt (⟨target,iter,ifs,0⟩ :: rest) scope pos) 0 it' acc env) R s')
   (notedBy (model prog w) A env fun x s' => R (.error x) s') s) :
  codeAny (model prog w) A (.compStart (.SetComp elt (⟨target,iter,ifs,0⟩ :: rest) scope pos) 0 it acc env) R s := by
 refine codeAny_of_tree ?_
 show wpAny _ _ ((compStart (.SetComp elt (⟨target,iter,ifs,0⟩ :: rest) scope pos) 0 it acc env).onRaise (fun x => do noteFrame x env; standAt theWindowsPlace)) _ _ s
 refine wpAny_notedAt ?_
 unfold compStart
 show wpAny _ _ (ask >>= _) _ _ s
 refine wb (wpAny_askSetting (wpAny_ite ?_))
 split
 ·first
   | exact wb (wpAny_pure (wpAny_pure (And.intro rfl h0)))
   | exact wpAny_pure (And.intro rfl h0)
 ·first
   | exact wb (wpAny_rule (wb (wpAny_standAt (wb (wpAny_mono h (fun it' s' h' => wpAny_pure (And.intro rfl h')) fun _ _ x => x)))))
   | (refine wb (wpAny_rule ?_); show wpAny _ _ (standAt iter.pos >>= _) _ _ s; exact wb (wpAny_standAt (wb (wpAny_mono h (fun it' s' h' => wpAny_pure (And.intro rfl h')) fun _ _ x => x))))
theorem zgu {a : Addr} {led b : Bool} {Q : List Value → Shared → Prop} (hh : A.handled = none) (hl : led = !w.params.followText "set-order") (g : s.heap.get? a = some (sObj1 led b))
  (h : ∀ h',(∀ c o,s.heap.get? c = some o → h'.get? c = some o) → Q [.bool b] { s with heap := h' }) : wpAny (model prog w) A (unpackItems (.ref a) 1 none) Q E s := by
 have hT : s.TypeIs (.ref a) "set" := ⟨_,g,rfl⟩
 have hne : a ≠ s.heap.objs.size := Nat.ne_of_lt (Heap.lt_size g)
 unfold unpackItems
 refine wb ?_
 unfold notIterableAtAll
 refine wb (wpAny_specialOf hT PySem.F.slot_set_iter.lookup ?_)
 refine wpAny_pure ?_
 simp only [Bool.false_eq_true,if_false]
 refine wb (wpAny_holding (zko g ?_))
 have g1 : (s.heap.push (itobj a 0 0)).get? a = some (sObj1 led b) := Heap.get?_push_of_some _ g
 have i1 : (s.heap.push (itobj a 0 0)).get? s.heap.objs.size = some (itobj a 0 0) := Heap.get?_push_size _ rfl
 refine wb (wpAny_holding ?_)
 unfold draw
 refine wb (zkp (s := { s with heap := s.heap.push (itobj a 0 0) }) hl g1 i1 fun h₁ hs₁ i2 => ?_)
 refine wb (wpAny_holding ?_)
 unfold draw
 refine wpAny_pure (wpAny_pure ?_)
 rw [if_neg (show ¬ ([Value.bool b].length < 1) from Nat.lt_irrefl 1)]
 refine wb (wpAny_holding (set_end (s := { s with heap := h₁ }) hh hl ((hs₁.2 a hne).trans g1) i2 fun h₂ he => ?_))
 simp only [Option.isSome_none,Bool.false_eq_true,if_false]
 refine wpAny_pure (h h₂ fun c o e => ?_)
 have hc : c ≠ s.heap.objs.size := Nat.ne_of_lt (Heap.lt_size e)
 exact he c o hc ((hs₁.2 c hc).trans (Heap.get?_push_of_some _ e))
end
section
variable {cx : XCx} {ε : Sc}
noncomputable def ledOf (w : World) : Bool := !w.params.followText "set-order"
inductive StP (w : World) (o : Obj) : List Value → List D → Prop
 | nil : o = sObj0 (ledOf w) → StP w o [] []
 | one {ys : List Value} {ds : List D} (b : Bool) : (∀ d ∈ ds,d = .bool b) → ds ≠ [] → o = sObj1 (ledOf w) b → StP w o ys ds
theorem accSet {elt tg iter : Expr} {ifs : List Expr} {scope : Scope} {pos : Pos} : AccK cx (.SetComp elt [⟨tg,iter,ifs,0⟩] scope pos) elt tg iter ifs (newSet (.type "set")) "set.add" (StP cx.w) (fun l => ∃ b, ∀ d ∈ l,d = D.bool b) where
 cl := rfl
 start := fun h0 h => zkq h0 h
 loop := fun I turn n h => zgH I turn n h
 new := fun h => new_set (h _ (.nil rfl) rfl)
 pre := fun ⟨b,h⟩ => ⟨b,fun d hd => h d (List.mem_append_left _ hd)⟩
 add := fun {A Q E s F Da o ys ds v y} g hP z r hg h => by
  obtain ⟨b,hb⟩ := hg
  have hy : y = .bool b := hb y (List.mem_append_right _ (List.mem_singleton.mpr rfl))
  subst hy
  cases r with
  | bool =>
   cases hP with
   | nil e =>
    subst e
    refine zkd g (h _ _ (sObj1 (ledOf cx.w) b) (Heap.SameBut.update ..) (Heap.get?_update_self _ g rfl) (.one b hb (by simp) rfl))
   | one c hc h0 e =>
    subst e
    have ebc : b = c := by
     cases ds with
     | nil => exact absurd rfl h0
     | cons d ds =>
      have h1 := hb d (List.mem_append_left _ List.mem_cons_self)
      have h2 := hc d List.mem_cons_self
      rw [h1] at h2
      exact D.bool.inj h2
    subst ebc
    exact zke g (h s.heap (s.toks + 1) _ (Heap.SameBut.refl ..) g (.one b hb (by simp) rfl))
theorem ev_setI {cf : CfT} {i : Nat} {it e : X} {ρ : List Slot} {r : R} (h : ev cf (.setI i it e) ρ = some [r]) :
  ∃ items l b,evI cf it ρ = some items ∧ compGo (turnC cf [i] one1 (.const (.bool true)) e ρ) items = some l ∧ l ≠ [] ∧ (∀ d ∈ l,d = D.bool b) ∧ r = .val (.bool b) := by
 replace h := (zbl _).symm.trans h
 split at h
 ·rename_i items e1
  split at h
  ·rename_i b l e2
   split at h
   ·rename_i hall
    (injection h with h; injection h with h z; clear z; subst h)
    refine ⟨items,_,b,by unfold evI; rw [e1],e2,by simp,fun d hd => ?_,rfl⟩
    rcases List.mem_cons.mp hd with rfl | hd
    ·rfl
    ·have := List.all_eq_true.mp hall d hd
     cases d <;> first | (injection this; done) | exact congrArg D.bool (eq_of_beq this)
   ·injection h
  ·injection h
 ·injection h
theorem ziO {elt iter tg : Expr} {ifs : List Expr} {scope : Scope} {pos : Pos} {xs : List Str} {is : List Nat} {bind : D → Option (List D)} {c e it : X} (K : CompX cx ε elt iter tg ifs scope xs is bind it c e)
  {n cf A env F s ρ ad m cm} (H : Here cx ε n cf A env F s ρ ad m cm) {items l : List D} {b : Bool} (hit : evI cf it ρ = some items) (hl : compGo (turnC cf is bind c e ρ) items = some l) (h0 : l ≠ []) (hb : ∀ d ∈ l,d = D.bool b)
  {Q E : VP} (hQ : ∀ Da F' s',Step cx F s F' s' → s'.heap.get? Da = some (sObj1 (ledOf cx.w) b) → Q (.ref Da) s') :
  wpAny (model cx.prog cx.w) A (eval (.SetComp elt [⟨tg,iter,ifs,0⟩] scope pos) env) Q E s := by
 rw [PySem.arm_eval_SetComp]
 refine ze4 (use := none) accSet K.hT K.hb K.hi K.ok K.hc K.he K.hs H hit hl ⟨b,hb⟩ fun Da C F' s' m' ob ys st f0 nf nx g hP q z hn frC nC hne => ?_
 refine ⟨m',hn,fun h'' sb => ?_⟩
 have st2 : Step cx F s F' { s' with heap := h'' } := st.kept H.ok H.wd (wr := (· = C)) (fun b hb => by subst hb; exact ⟨frC,nC⟩) s'.toks fun a o h e => (sb.2 a h).trans e
 refine hQ Da F' _ st2 ((sb.2 Da hne.symm).trans ?_)
 cases hP with
 | nil => exact absurd rfl h0
 | one c hc _ e =>
  have ebc : b = c := by
   cases l with
   | nil => exact absurd rfl h0
   | cons d l =>
    have h1 := hb d List.mem_cons_self
    have h2 := hc d List.mem_cons_self
    rw [h1] at h2
    exact D.bool.inj h2
  rw [ebc, ← e]; exact g
theorem zdK {x : Str} {j : Nat} {p pos' pos cpos : Pos} {k : Nat} {elt iter tg : Expr} {ifs : List Expr} {scope : Scope} {y : Str} {i : Nat} {e it : X} (hx : ε.vars.lookup x = some j) (hfx : ε.kinds.lookup x ≠ some .free) (K : CompX cx ε elt iter tg ifs scope [y] [i] one1 it (.const (.bool true)) e)
  (hw : ∀ env,swappedStores [.Tuple [.Name x p] k pos'] (.SetComp elt [⟨tg,iter,ifs,0⟩] scope cpos) env = pure none) :
  SoundS cx ε (.Assign [.Tuple [.Name x p] k pos'] (.SetComp elt [⟨tg,iter,ifs,0⟩] scope cpos) pos) (.assign j (.setI i it e)) := by
 intro n cf A env F s ρ ad m cm H ρ' o he Q E hQ
 replace he := (zcD cf).symm.trans he
 obtain ⟨d,e0,e00⟩ := Option.map_eq_some_iff.mp he
 (injection e00 with e00 z; subst e00 z)
 obtain ⟨r,e1,er⟩ : ∃ r,ev cf (.setI i it e) ρ = some [r] ∧ r.fz = some d := by
  unfold ev1 at e0
  split at e0
  ·rename_i r e1; exact ⟨r,e1,e0⟩
  ·injection e0
 obtain ⟨items,l,b,a1,a2,a3,a4,rfl⟩ := ev_setI e1
 (injection er with er; subst er)
 refine wpAny_Assign_stores (ziO K H.here a1 a2 a3 a4 fun Da F1 s1 st g => ?_) rfl (hw env)
 show wpAny _ _ (assign (.Tuple [.Name x p] k pos') env (.ref Da)) _ _ _
 rw [arm_assign_Tuple]
 refine wb (wpAny_standAt ?_)
 unfold unpack
 refine wb (wpAny_holding (zgu H.bud.hd rfl g fun h' hk => ?_))
 have st1 := st.trans (Step.grown H.ok st.wd s1.toks hk)
 show wpAny _ _ (assignInOrder [fun v => assign (.Name x p) env v] [Value.bool b]) _ _ _
 unfold assignInOrder
 refine wb (wpAny_holding (wpAny_assign_Name ?_))
 refine zcw H st1 hx hfx (sl := .val (.bool b)) (ad' := ad) (fun _ _ => rfl) (.inl rfl) (fun h' _ => .val (.bool b)) (fun _ e => nomatch e) fun s'' m'' cm'' _ x f => ?_
 exact wpAny_pure (hQ .next F1 s'' ad m'' cm'' x f .next)
end
section
variable {prog : Program} {w : World} {A : Around} {R : Result → Shared → Prop} {s : Shared} {elt t1 i1 t2 i2 : Expr} {scope : Scope} {pos : Pos} {it acc : Value} {env : Env}
end
section
variable {cx : XCx} {ε : Sc}
theorem CompOK.one {scope : Scope} {x y : Str} {i j : Nat} (ok : CompOK ε scope [x,y] [i,j]) : CompOK ε scope [x] [i] where
 kind := ok.kind
 nocell := ok.nocell
 names := ok.names
 xl := fun z hz => ok.xl z (by rw [List.mem_singleton.mp hz]; exact List.mem_cons_self)
 free := ok.free
 apart := fun z k hz hm => ok.apart z k hz (by rw [List.mem_singleton.mp hm]; exact List.mem_cons_self)
 xn := List.nodup_cons.mpr ⟨List.not_mem_nil,List.nodup_nil⟩
 isn := List.nodup_cons.mpr ⟨List.not_mem_nil,List.nodup_nil⟩
 len := rfl
end
section
variable {cx : XCx} {ε : Sc} {n : Nat} {cf : CfT} {A : Around} {env : Env} {F F' : AP} {s s' : Shared} {ρ ρ' : List Slot} {ad : NAd} {m cm : SV} {i : Nat} {l : List D}
end
section
variable {cx : XCx} {ε : Sc}
end
end Mine
end
section
open PySem PySem.Calls PyProof.Rows PySem.Builtin.Str PySem.SeqAt PySem.AutoSeq1 PySem.MeetsSeq PySem.MeetsSeq2 PySem.MeetsSeq3 PySem.SeqRoads2
namespace Mine
section
variable {cx : XCx} {ε : Sc}
end
end Mine
end
section
open PySem PySem.Calls PyProof.Rows PySem.Builtin.Str
namespace Mine
open Classical in
noncomputable def guard (P : (Nat → List D → Option D) → List Slot → Prop) : S := .sem fun cf ρ => if P cf ρ then some (ρ,.next) else none
theorem zjH {P : (Nat → List D → Option D) → List Slot → Prop} {cf : CfT} {ρ ρ' : List Slot} {o : Out} (h : ex cf (guard P) ρ = some (ρ',o)) : P cf ρ ∧ ρ' = ρ ∧ o = .next := by
 replace h := (zjQ cf).symm.trans h
 by_cases p : P cf ρ
 ·cases (if_pos p).symm.trans h; exact ⟨p,rfl,rfl⟩
 ·injection (if_neg p).symm.trans h
theorem zk2 {P : (Nat → List D → Option D) → List Slot → Prop} {cf : CfT} {ρ : List Slot} (p : P cf ρ) : ex cf (guard P) ρ = some (ρ,.next) := (zjQ cf).trans (if_pos p)
inductive CacheL (prog : Program) (w : World) (T : NAd) (dom : List (List Nat)) (cv : List Nat → Option D) (F : AP) (h : Heap) (kvs : List (Str × Value)) : Prop
 | mk (g : h.DictOf (PySem.strKind prog w) (T 2) kvs) (q : ∀ x ∈ kvs, ∃ l d,x.1 = ⟨l.toArray⟩ ∧ l ∈ dom ∧ cv l = some d ∧ Rep T F h x.2 d)
noncomputable def CacheAt (prog : Program) (w : World) (T : NAd) (dom : List (List Nat)) (cv : List Nat → Option D) (F : AP) (h : Heap) : Prop := ∃ kvs,CacheL prog w T dom cv F h kvs
noncomputable def InC (cx : XCx) (dom : List (List Nat)) (cv : List Nat → Option D) (F : AP) (h : Heap) (k : List Nat) : Prop := ∃ kvs,CacheL cx.prog cx.w cx.T dom cv F h kvs ∧ ∃ x ∈ kvs,x.1 = ⟨k.toArray⟩
set_option genInjectivity false in
structure CacheP where
 tf : Nat
 qm : List Nat
 dom : List (List Nat)
set_option genInjectivity false in
structure CacheG (cx : XCx) (P : CacheP) where
 cv : List Nat → Option D
 dl : P.dom.length ≤ lim
 xt : cx.X (cx.T 2)
 nm : (cx.T 2 == sysModules) = false
 get : ∀ F h,cx.XF F h → CacheAt cx.prog cx.w cx.T P.dom cv F h
 set : ∀ F h h',(∀ a,F a → a ≠ cx.T 2) → cx.XF F h → (∀ a o,a ≠ cx.T 2 → h.get? a = some o → h'.get? a = some o) → CacheAt cx.prog cx.w cx.T P.dom cv F h' → cx.XF F h'
 ck : ∀ cf,cx.cok cf → (cf P.tf [.str [97],.tok 0,.str P.qm]).isSome → ∀ k d,k ∈ P.dom → cf P.tf [.str k,.tok 0,.str P.qm] = some d → cv k = some d
section
variable {cx : XCx} {ε : Sc} {n : Nat} {cf : CfT} {A : Around} {env : Env} {F F' : AP} {s s' : Shared} {ρ ρ' : List Slot} {ad : NAd} {m cm : SV} {dom : List (List Nat)} {cv : List Nat → Option D} {kvs : List (Str × Value)} {k : List Nat} {d : D} {C : CacheP}
theorem zji {a b : List Nat} (h : (⟨a.toArray⟩ : Str) = ⟨b.toArray⟩) : a = b := by injection h with h; exact congrArg Array.toList h
theorem CacheL.mono {prog : Program} {w : World} {T : NAd} (hF : ∀ a,F a → F' a) {h h' : Heap} (hk : ∀ a o,F a ∨ a = T 2 → h.get? a = some o → h'.get? a = some o) (c : CacheL prog w T dom cv F h kvs) : CacheL prog w T dom cv F' h' kvs := by
 cases c with
 | mk g q =>
  obtain ⟨o,es,ep,ho,r⟩ := g
  exact .mk ⟨o,es,ep,hk _ _ (.inr rfl) ho,r⟩ fun x hx => let ⟨l,d,e1,e2,e3,e4⟩ := q x hx; ⟨l,d,e1,e2,e3,e4.mono hF fun a o f e => hk a o (.inl f) e⟩
theorem CacheL.len (c : CacheL cx.prog cx.w cx.T dom cv F s.heap kvs) : kvs.length ≤ dom.length := by
 cases c with
 | mk g q =>
  obtain ⟨_,_,_,_,_,_,_,_,nd⟩ := g
  have := nd.length_le_of_subset (l₂ := dom.map fun l => (⟨l.toArray⟩ : Str)) fun x hx => by
   obtain ⟨y,hy,e⟩ := List.mem_map.mp hx
   obtain ⟨l,d,e1,e2,_⟩ := q y hy
   exact List.mem_map.mpr ⟨l,e2,e1.symm.trans e⟩
  rwa [List.length_map,List.length_map] at this
theorem zhB {k : Str} {y : Str × Value} (h : (kvs.find? fun kv => decide (kv.1 = k)) = some y) : y.1 = k := of_decide_eq_true (p := y.1 = k) (List.find?_some (p := fun kv : Str × Value => decide (kv.1 = k)) h)
theorem CacheL.at {h : Heap} (c : CacheL cx.prog cx.w cx.T dom cv F h kvs) {x : Str × Value} (hx : x ∈ kvs) (e : x.1 = ⟨k.toArray⟩) (hd : cv k = some d) : ∃ v,valueAt kvs ⟨k.toArray⟩ = some v ∧ Rep cx.T F h v d := by
 cases c with
 | mk g q =>
  cases hf : kvs.find? fun kv => decide (kv.1 = ⟨k.toArray⟩) with
  | none => exact absurd (decide_eq_true e) (List.find?_eq_none.mp hf x hx)
  | some y =>
   obtain ⟨l,d',e1,_,e3,r⟩ := q y (List.mem_of_find?_eq_some hf)
   cases zji (e1.symm.trans (zhB hf))
   rw [hd] at e3
   (injection e3 with e3; subst e3)
   exact ⟨y.2,(congrArg (Option.map Prod.snd) hf),r⟩
theorem has_of {v : Value} (e : valueAt kvs ⟨k.toArray⟩ = some v) : ∃ x ∈ kvs,x.1 = ⟨k.toArray⟩ := by
 obtain ⟨y,hy,_⟩ := Option.map_eq_some_iff.mp e
 exact ⟨y,List.mem_of_find?_eq_some hy,zhB hy⟩
theorem zhS {v : Value} : ∃ x ∈ stored kvs (⟨k.toArray⟩ : Str) v,x.1 = ⟨k.toArray⟩ := by
 unfold stored
 by_cases h : (kvs.any fun kv => decide (kv.1 = (⟨k.toArray⟩ : Str))) = true
 ·rw [if_pos h]
  obtain ⟨y,hy,e⟩ := List.any_eq_true.mp h
  refine ⟨_,List.mem_map.mpr ⟨y,hy,if_pos (of_decide_eq_true e)⟩,of_decide_eq_true e⟩
 ·rw [if_neg h]
  exact ⟨_,List.mem_append_right _ List.mem_cons_self,rfl⟩
theorem zhR {v : Value} {x : Str × Value} (h : x ∈ stored kvs (⟨k.toArray⟩ : Str) v) : x ∈ kvs ∨ x = (⟨k.toArray⟩,v) := by
 unfold stored at h
 by_cases hc : (kvs.any fun kv => decide (kv.1 = (⟨k.toArray⟩ : Str))) = true
 ·rw [if_pos hc] at h
  obtain ⟨y,hy,e⟩ := List.mem_map.mp h
  by_cases hk : y.1 = ⟨k.toArray⟩
  ·rw [if_pos hk,hk] at e; exact .inr e.symm
  ·rw [if_neg hk] at e; exact .inl (e ▸ hy)
 ·rw [if_neg hc] at h
  rcases List.mem_append.mp h with h | h
  ·exact .inl h
  ·exact .inr (List.mem_singleton.mp h)
theorem CacheG.put (G : CacheG cx C) (w : Wd cx F s) (c : CacheL cx.prog cx.w cx.T C.dom G.cv F s.heap kvs) (hk : k ∈ C.dom) (hc : G.cv k = some d) {v : Value} (r : Rep cx.T F s.heap v d) {h' : Heap} (g : h'.DictOf (PySem.strKind cx.prog cx.w) (cx.T 2) (stored kvs ⟨k.toArray⟩ v)) (sb : Heap.SameBut (cx.T 2) s.heap h') (t : Nat) :
  Step cx F s F { s with heap := h',toks := t } ∧ InC cx C.dom G.cv F h' k := by
 have keep : ∀ a o,a ≠ cx.T 2 → s.heap.get? a = some o → h'.get? a = some o := fun a o ne e => (sb.2 a ne).trans e
 have kF : ∀ a o,F a → s.heap.get? a = some o → h'.get? a = some o := fun a o f e => keep a o (fun e' => w.nx a f (e' ▸ G.xt)) e
 have kX : ∀ a o, ¬ cx.X a → s.heap.get? a = some o → h'.get? a = some o := fun a o nx e => keep a o (fun e' => nx (e' ▸ G.xt)) e
 have c' : CacheL cx.prog cx.w cx.T C.dom G.cv F h' (stored kvs ⟨k.toArray⟩ v) := by
  cases c with
  | mk g0 q =>
   refine .mk g fun x hx => ?_
   rcases zhR hx with hx | rfl
   ·obtain ⟨l,d,e1,e2,e3,e4⟩ := q x hx
    exact ⟨l,d,e1,e2,e3,e4.mono (fun _ h => h) kF⟩
   ·exact ⟨k,d,rfl,hk,hc,r.mono (fun _ h => h) kF⟩
 refine ⟨⟨fun _ h => h,fun _ h => .inl h,fun a o e nx => kX a o nx e,rfl,⟨fun a o e nx => kX a o nx (w.base a o e nx),G.set _ _ _ (fun a f e => w.nx a f (e ▸ G.xt)) w.xi keep ⟨_,c'⟩,w.gens,w.f0,fun a f => let ⟨o,e⟩ := w.lt a f; ⟨o,kF a o f e⟩,w.nx,fun a x => ?_⟩⟩,_,c',zhS⟩
 by_cases e : a = cx.T 2
 ·obtain ⟨o,_,_,ho,_⟩ := g
  exact ⟨o,e ▸ ho⟩
 ·obtain ⟨o,ho⟩ := w.xex a x
  exact ⟨o,keep a o e ho⟩
noncomputable def KeyPure (cx : XCx) (ε : Sc) (ek : Expr) (k : X) : Prop :=
 ∀ n cf A env F s ρ ad m cm,Here cx ε n cf A env F s ρ ad m cm → ∀ q,ev cf k ρ = some [.val (.str q)] → ∀ (Q E : VP),(∀ t u,(∀ c ∈ q,c < 0x110000) → q.length ≤ lim → Q (.str ⟨q.toArray⟩ t) { s with toks := u }) → wpAny (model cx.prog cx.w) A (eval ek env) Q E s
theorem zgX {x : Str} {i : Nat} {p : Pos} (hv : ε.vars.lookup x = some i) (hn : (x == ("__classdict__" : Str)) = false) (hd : (x == ("__debug__" : Str)) = false) : KeyPure cx ε (.Name x p) (.var i) := by
 intro n cf A env F s ρ ad m cm H q hq Q E hQ
 refine zej H hv hn hd hq fun v r => ?_
 cases r with
 | val r => cases r with | str t pp z => exact hQ t s.toks pp z
set_option genInjectivity false in
structure CPre (C : CacheP) (cf : CfT) (k : X) (si li : Nat) (ρ : List Slot) (q : List Nat) : Prop where
 star : ev cf (.var si) ρ = some [.val (.tok 0)]
 dic : ev cf (.var li) ρ = some [.val (.tok 2)]
 isS : (cf C.tf [.str [97],.tok 0,.str C.qm]).isSome
 key : ev cf k ρ = some [.val (.str q)]
 mem : q ∈ C.dom
noncomputable abbrev tcall (C : CacheP) (k : X) (si : Nat) : X := .call C.tf (.cons k (.cons (.var si) (.cons (.const (.str C.qm)) .nil)))
theorem CPre.call {k : X} {si li : Nat} {q : List Nat} (P : CPre C cf k si li ρ q) {r : R} (h : ev cf (tcall C k si) ρ = some [r]) : ∃ d,r = .val d ∧ cf C.tf [.str q,.tok 0,.str C.qm] = some d := by
 replace h := (za8 _).symm.trans h
 have e : ev cf (.cons k (.cons (.var si) (.cons (.const (.str C.qm)) .nil))) ρ = some [.val (.str q),.val (.tok 0),.val (.str C.qm)] := by
  rw [zaX,P.key]
  show (ev cf (.cons (.var si) _) ρ).map _ = _
  rw [zaX,P.star]
  rfl
 rw [e] at h
 obtain ⟨d,e3,e4⟩ := Option.map_eq_some_iff.mp h
 (injection e4 with e4 z; injection z; subst e4)
 exact ⟨d,rfl,e3⟩
theorem zdp (H : Here cx ε n cf A env F s ρ ad m cm) {x : Str} {i : Nat} {p : Pos} (hv : ε.vars.lookup x = some i) (hn : (x == ("__classdict__" : Str)) = false) (hd : (x == ("__debug__" : Str)) = false) (hi : ev cf (.var i) ρ = some [.val (.tok 2)])
  {Q E : VP} (h : Q (.ref (cx.T 2)) s) : wpAny (model cx.prog cx.w) A (eval (.Name x p) env) Q E s := by
 refine zej H hv hn hd hi fun v r => ?_
 cases r with
 | val r => cases r with | tok _ => exact h
theorem zit (G : CacheG cx C) {lx : Str} {si li : Nat} {e1 e2 e : Expr} {k : X} {p1 p2 p3 p4 p5 p6 : Pos} (hx : ε.vars.lookup lx = some li) (hn : (lx == ("__classdict__" : Str)) = false) (hd : (lx == ("__debug__" : Str)) = false) (k1 : KeyPure cx ε e1 k) (k2 : KeyPure cx ε e2 k)
  (he : Sound cx ε e (tcall C k si)) (hs : ∀ env,swapsWith e (some (.Subscript (.Name lx p3) e2 p4)) p5.line env = pure false) (hm : behindInMarks .NotIn (.Name lx p1) = false)
  (H : HereS cx ε n cf A env F s ρ ad m cm) {q : List Nat} (P : CPre C cf k si li ρ q) {d : D} (hd' : ev cf (tcall C k si) ρ = some [.val d]) {Q : Flow → Shared → Prop} {E : VP}
  (hQ : ∀ F' s',Step cx F s F' s' → InC cx C.dom G.cv F' s'.heap q → Q .next s') :
  wpAny (model cx.prog cx.w) A (exec (.If (.Compare e1 [.NotIn] [.Name lx p1] p2) [.Assign [.Subscript (.Name lx p3) e2 p4] e p5] [] p6) env) Q E s := by
 obtain ⟨d',er,hcf⟩ := P.call hd'
 (injection er with er; subst er)
 have hcv : G.cv q = some d := G.ck cf H.calls.cok P.isS q d P.mem hcf
 refine wpAny_If (wpAny_isTrue_Compare1 (k1 n cf A env F s ρ ad m cm H.here q P.key _ _ fun t u pp z => zdp (H.here.step ((Step.refl H.wd).toks u)) hx hn hd P.dic ?_) hm)
 obtain ⟨kvs,c⟩ := G.get _ _ H.wd.xi
 have g : s.heap.DictOf (PySem.strKind cx.prog cx.w) (cx.T 2) kvs := by cases c with | mk g _ => exact g
 have st0 : ∀ u,Step cx F s F { s with toks := u } := (Step.refl H.wd).toks
 refine wpAny_notIn_of (knd := PySem.strKind _ _) (k := ⟨q.toArray⟩) (strKind_is _ _ _ _) G.nm g.mapOf ?_
 refine wpAny_truthy_bool ?_
 have st1 := st0 (u + 1)
 cases hv : valueAt kvs ⟨q.toArray⟩ with
 | some v => exact wpAny_execs_nil (hQ F _ (st0 _) ⟨kvs,c,has_of hv⟩)
 | none =>
  have H1 := H.step st1
  refine wpAny_execs_cons (wpAny_Assign_Subscript (he.ev n cf A env F _ ρ ad m cm H1.here _ hd' _ _ fun v F2 s2 st2 qv => ?_) (hs env))
  have H2 := H1.step st2
  refine zdp H2.here hx hn hd P.dic (k2 n cf A env F2 s2 ρ ad m cm H2.here q P.key _ _ fun t u pp z => ?_)
  have st3 := (Step.refl H2.wd).toks u
  obtain ⟨kvs2,c2⟩ := G.get _ _ H2.wd.xi
  have g2 : s2.heap.DictOf (PySem.strKind cx.prog cx.w) (cx.T 2) kvs2 := by cases c2 with | mk g _ => exact g
  refine wpAny_setItem_pairs (knd := PySem.strKind _ _) (k := ⟨q.toArray⟩) (strKind_is _ _ _ _) g2 (fun h' g' sb => ?_) (zaB (Nat.le_trans c2.len G.dl))
  cases qv with
  | val rv =>
   obtain ⟨st4,ic⟩ := G.put st3.wd c2 P.mem hcv rv g' sb (u + 1)
   exact wpAny_execs_nil (hQ F2 _ (st1.trans (st2.trans (st3.trans st4))) ic)
theorem ziu (G : CacheG cx C) {lx f : Str} {i si li : Nat} {ek : Expr} {k y : X} {p p1 p2 pos : Pos} {es : List Expr} (hk : ε.kinds.lookup f = some .globalImplicit) (hv : cx.mg f = some (.ref (cx.fa i))) (hfd : (f == ("__debug__" : Str)) = false)
  (hx : ε.vars.lookup lx = some li) (hn : (lx == ("__classdict__" : Str)) = false) (hd : (lx == ("__debug__" : Str)) = false) (kp : KeyPure cx ε ek k) (h : SoundL cx ε es y false)
  (H : Here cx ε n cf A env F s ρ ad m cm) {q : List Nat} (P : CPre C cf k si li ρ q) (ic : InC cx C.dom G.cv F s.heap q) {r : R} (he : ev cf (.call i (.cons (tcall C k si) y)) ρ = some [r]) :
  Ev cx A F s (eval (.Call (.Name f p) (.Subscript (.Name lx p1) ek p2 :: es) [] pos) env) r := by
 intro Q E hQ
 replace he := (za8 _).symm.trans he
 split at he
 ·rename_i rs e1
  split at he
  ·rename_i ds e2
   obtain ⟨d,e3,e4⟩ := Option.map_eq_some_iff.mp he
   (injection e4 with e4 z; injection z; subst e4)
   rw [zaw (by intro _ _ _ e; injection e)]
   obtain ⟨⟨o,fd,g,hfdd,nx⟩,hcall⟩ := H.calls.call i ds d e3
   refine wb (zbO H hk hv hfd ?_)
   obtain ⟨r0,rs',e5,e6,rfl⟩ := zay e1
   obtain ⟨d0,er,hcf⟩ := P.call e5
   subst er
   have hcv := G.ck cf H.calls.cok P.isS q d0 P.mem hcf
   have first : ∀ (Q E : VP),(∀ v u,Rep cx.T F s.heap v d0 → Q v { s with toks := u }) → wpAny (model cx.prog cx.w) A (eval (.Subscript (.Name lx p1) ek p2) env) Q E s := by
    intro Q E hQ
    refine Subscript_ (zdp H hx hn hd P.dic (kp n cf A env F s ρ ad m cm H q P.key _ _ fun t u pp z => ?_))
    obtain ⟨kvs,c,x,hxm,hxe⟩ := ic
    obtain ⟨v,e,r⟩ := c.at hxm hxe hcv
    have g : s.heap.DictOf (PySem.strKind cx.prog cx.w) (cx.T 2) kvs := by cases c with | mk g _ => exact g
    obtain ⟨ops,hs⟩ := zci ek (.ref (cx.T 2)) (.str ⟨q.toArray⟩ t)
    exact tail_any g.typeIs PySem.slot_dict_getitem.lookup (wpAny_getItem_of (knd := PySem.strKind _ _) (k := ⟨q.toArray⟩) (strKind_is _ _ _ _) g.mapOf e (hQ v _ r)) hs
   refine Calls.callWith_function (o := o) (fd := fd) ?_
   rw [zao rfl,zav]
   refine Calls.evalArgs_plain (Calls.spliced_cons (first _ _ fun v u rv => ?_))
   have st0 : Step cx F s F { s with toks := u } := (Step.refl H.wd).toks u
   refine h.run F _ ρ ad m cm (H.step st0) rs' e6 _ _ fun vs F' s' st q => ?_
   obtain ⟨F'',st',_,q'⟩ := zgc H.ok H.wd (st0.trans st) (fun _ h => h) (.cons (.val (st.rep st0.wd rv)) (q.low st0)) e2
   refine ⟨⟨st'.wd.base _ _ g nx,hfdd⟩, ?_⟩
   show wpAny _ _ (call (.ref (cx.fa i)) _) Q E s'
   refine wpAny_call (hcall A F'' s' _ H.bud.toBud st'.wd q' _ fun v F3 s3 st3 r => ?_)
   exact hQ v F3 s3 (st'.trans st3) (.val r)
  ·injection he
 ·injection he
theorem seq_at (H : HereS cx ε n cf A env F s ρ ad m cm) {st : Stmt} {sts : List Stmt} {a b : S} (h1 : ∀ ρ' o,ex cf a ρ = some (ρ',o) → ∀ Q E,PostS cx ε env F s ρ ad ρ' o Q → wpAny (model cx.prog cx.w) A (exec st env) Q E s) (h2 : SoundSs cx ε sts b) {o : Out}
  (h : ex cf (.seq a b) ρ = some (ρ',o)) {Q : Flow → Shared → Prop} {E : VP} (hQ : PostS cx ε env F s ρ ad ρ' o Q) : wpAny (model cx.prog cx.w) A (execs (st :: sts) env) Q E s := by
 refine wpAny_execs_cons ?_
 replace h := (zg5 cf).symm.trans h
 split at h
 ·rename_i ρ₁ e1
  refine h1 ρ₁ .next e1 _ _ fun f F' s' ad' m' cm' x fr q => ?_
  cases q
  exact h2 n cf A env F' s' ρ₁ ad' m' cm' (H.stepS x fr) ρ' o h _ _ (hQ.after x)
 ·rename_i ρ₁ o₁ hne e1
  cases h
  refine h1 _ _ e1 _ _ fun f F' s' ad' m' cm' x fr q => ?_
  cases q with
  | next => exact (hne rfl).elim
  | brk => exact hQ _ F' s' ad' m' cm' x fr .brk
  | cont => exact hQ _ F' s' ad' m' cm' x fr .cont
  | ret r => exact hQ _ F' s' ad' m' cm' x fr (.ret r)
 ·injection h
noncomputable abbrev cpreP (C : CacheP) (k : X) (si li : Nat) : (Nat → List D → Option D) → List Slot → Prop := fun cf ρ => ∃ q,CPre C cf k si li ρ q ∧ ∃ d,ev cf (tcall C k si) ρ = some [.val d]
theorem zk8 {P : (Nat → List D → Option D) → List Slot → Prop} {o : Out} {b : S} (h : ex cf (.seq (guard P) b) ρ = some (ρ',o)) : P cf ρ ∧ ex cf b ρ = some (ρ',o) := by
 rw [zjV] at h
 cases hg : ex cf (guard P) ρ with
 | none => rw [hg] at h; injection h
 | some x =>
  obtain ⟨ρ1,o1⟩ := x
  obtain ⟨p,rfl,rfl⟩ := zjH hg
  rw [hg] at h
  exact ⟨p,h⟩
theorem zky (G : CacheG cx C) {lx f : Str} {i si li : Nat} {e1 e2 e3 e e4 : Expr} {k y z : X} {p p1 p2 p3 p4 p5 p6 p7 p8 p9 p0 pos : Pos} {es : List Expr} (hk : ε.kinds.lookup f = some .globalImplicit) (hv : cx.mg f = some (.ref (cx.fa i))) (hfd : (f == ("__debug__" : Str)) = false)
  (hx : ε.vars.lookup lx = some li) (hn : (lx == ("__classdict__" : Str)) = false) (hd : (lx == ("__debug__" : Str)) = false) (k1 : KeyPure cx ε e1 k) (k2 : KeyPure cx ε e2 k) (k3 : KeyPure cx ε e3 k)
  (he : Sound cx ε e (tcall C k si)) (hs : ∀ env,swapsWith e (some (.Subscript (.Name lx p3) e2 p4)) p5.line env = pure false) (hm : behindInMarks .NotIn (.Name lx p1) = false) (h : SoundL cx ε es y false) (hz : Sound cx ε e4 z) :
  SoundSs cx ε [.If (.Compare e1 [.NotIn] [.Name lx p1] p2) [.Assign [.Subscript (.Name lx p3) e2 p4] e p5] [] p6,.Return (some (.BoolOp .And [.Call (.Name f p) (.Subscript (.Name lx p7) e3 p8 :: es) [] pos,e4] p9)) p0]
   (.seq (guard (cpreP C k si li)) (.seq (.ret (.and (.call i (.cons (tcall C k si) y)) z)) .skip)) := by
 intro n cf A env F s ρ ad m cm H ρ' o hex Q E hQ
 obtain ⟨⟨q,P,d,hd'⟩,hex⟩ := zk8 hex
 refine wpAny_execs_cons (zit G hx hn hd k1 k2 he hs hm H P hd' fun F1 s1 st1 ic => ?_)
 have H1 := H.step st1
 refine seq_at H1 (fun ρ2 o2 h1 Q E hQ => ?_) zac hex (hQ.after (.ofStep st1))
 replace h1 := (zg6 cf).symm.trans h1
 obtain ⟨d2,hd2,e'⟩ := Option.map_eq_some_iff.mp h1
 (injection e' with e' z; subst e' z)
 obtain ⟨r2,er,ef⟩ := zfC hd2
 refine wpAny_Return_some ?_
 show wpAny _ _ (boolOp p9 .And (eval (.Call (.Name f p) (.Subscript (.Name lx p7) e3 p8 :: es) [] pos) env :: eval e4 env :: evalEach [] env)) _ _ _
 have fin : ∀ v F' s',Step cx F1 s1 F' s' → RepR cx F' s1.heap s'.heap v r2 → Q (.ret v) s' := fun v F' s' st q => by
  obtain ⟨F'',st',_,q'⟩ := st.fz H1.ok H1.wd q ef
  exact hQ _ F'' s' ad m cm (.ofStep st') (H1.step st').frm (.ret q')
 rw [zcX]
 replace er := (zbf _).symm.trans er
 split at er
 ·rename_i x1 e1'
  refine Ev.bind (ziu G hk hv hfd hx hn hd k3 h H1.here P ic e1') fun v F' s' st q => ?_
  refine wb (wpAny_standAt (wb (wpAny_holding ?_)))
  split at er
  ·rename_i hb
   refine zbh st.wd q.brep hb _ _ fun F'' s'' st' => ?_
   have st2 := st.trans st'
   refine zgp (SoundB.one (op := .And) hz) F'' s'' ρ ad m cm (H1.step st2).here r2 er _ _ fun v F3 s3 st3 q3 => fin v F3 s3 (st2.trans st3) (q3.low st2)
  ·rename_i hb
   cases er
   refine zbh st.wd q.brep hb _ _ fun F'' s'' st' => ?_
   exact wpAny_pure (fin v F'' s'' (st.trans st') (q.step st' st.wd))
  ·injection er
 ·injection er
end
end Mine
end
section
open PySem PySem.Calls PyProof.Rows PySem.Builtin.Str PySem.W
namespace Mine
noncomputable abbrev XCx.withC (cx : XCx) (T : NAd) (dom : List (List Nat)) (cv : List Nat → Option D) (ck : (Nat → List D → Option D) → Prop) : XCx :=
 {cx with T := T,X := fun a => cx.X a ∨ a = T 2,XF := fun F h => cx.XF F h ∧ CacheAt cx.prog cx.w T dom cv F h,cok := ck }
set_option genInjectivity false in
structure OkT (cx : XCx) (T : NAd) : Prop where
 inj : Inj T
 h0 : ∀ a o,cx.h0.get? a = some o → a ≠ T 2
 nx : ¬ cx.X (T 2)
 nm : (T 2 == sysModules) = false
section
variable {cx : XCx} {T : NAd} {dom : List (List Nat)} {cv : List Nat → Option D} {ck : (Nat → List D → Option D) → Prop}
theorem nxC (hx0 : ∀ a o,cx.h0.get? a = some o → ¬ cx.X a) (h : OkT cx T) {a : Addr} {o : Obj} (e : cx.h0.get? a = some o) : ¬ (cx.withC T dom cv ck).X a := fun q => q.elim (hx0 a o e) (h.h0 a o e)
theorem zlr {h : Heap} {a : Addr} {m : SV} (x : h.Ns a m) : ∃ o,h.get? a = some o := let ⟨o,_,_,e,_⟩ := x; ⟨o,e⟩
theorem CxOk.withC (hx0 : ∀ a o,cx.h0.get? a = some o → ¬ cx.X a) (ok : CxOk (cx.withT T)) (h : OkT cx T) : CxOk (cx.withC T dom cv ck) := by
 have nX : ∀ {a : Addr} {m : SV},cx.h0.Ns a m → ¬ (cx.withC T dom cv ck).X a := fun x => let ⟨_,e⟩ := zlr x; nxC hx0 h e
 obtain ⟨mc,s,_⟩ := ok.lim
 exact ⟨fun F F' h h' x hF hk => ⟨ok.xi F F' h h' x.1 hF fun a o q e => hk a o (q.imp_right .inl) e,let ⟨kvs,c⟩ := x.2; ⟨kvs,c.mono hF fun a o q e => hk a o (q.imp_right .inr) e⟩⟩,ok.glob,nX ok.glob,ok.blt,nX ok.blt,ok.bmb,ok.lim,nX s,fun h hk => ok.seer h fun a o e _ => hk a o e (nxC hx0 ‹OkT cx T› e),ok.tree,ok.nb,h.inj⟩
noncomputable def LamG.withC (hx0 : ∀ a o,cx.h0.get? a = some o → ¬ cx.X a) (G : LamG (cx.withT T)) (h : OkT cx T) : LamG (cx.withC T dom cv ck) :=
 {c := G.c,Pt := G.Pt,qs := G.qs,xget := fun F h x => G.xget F h x.1,
  xset := fun F F' h1 h2 x hF hk t => ⟨G.xset F F' h1 h2 x.1 hF (fun a o q e => hk a o (q.imp_right fun q => ⟨.inl q.1,q.2⟩) e) t,let ⟨kvs,c⟩ := x.2; ⟨kvs,c.mono hF fun a o q e => hk a o (q.imp_right fun q => ⟨.inr q,fun e' => h.nx (q ▸ e' ▸ G.xp)⟩) e⟩⟩,
  xp := .inl G.xp,x0 := fun a o e => nxC hx0 h e,apart := G.apart,blt := G.blt }
noncomputable def cacheG (C : CacheP) (dl : C.dom.length ≤ lim) (h : OkT cx T) (xi : ∀ F h h',(∀ a,F a → a ≠ T 2) → cx.XF F h → (∀ a o,a ≠ T 2 → h.get? a = some o → h'.get? a = some o) → cx.XF F h')
  (hk : ∀ cf,ck cf → (cf C.tf [.str [97],.tok 0,.str C.qm]).isSome → ∀ k d,k ∈ C.dom → cf C.tf [.str k,.tok 0,.str C.qm] = some d → cv k = some d) : CacheG (cx.withC T C.dom cv ck) C :=
 {cv := cv,dl := dl,xt := .inr rfl,nm := h.nm,get := fun _ _ x => x.2,set := fun F h h' hF x hk c => ⟨xi F h h' hF x.1 hk,c⟩,ck := hk }
noncomputable def tokL (a b : Nat) : Nat → Addr
 | 0 => a
 | 1 => a + b + 1
 | 2 => b
 | k + 3 => a + b + (k + 2)
theorem zkh (a b : Nat) (h : a ≠ b) : ∀ i j,tokL a b i = tokL a b j → i = j := by
 have l1 : ∀ k,a < a + b + (k + 1) := fun k => by clear h; omega
 have l2 : ∀ k,b < a + b + (k + 1) := fun k => by clear h; omega
 have l3 : ∀ k,a + b + 1 ≠ a + b + (k + 2) := fun k e => by omega
 intro i j e
 rcases i with _ | _ | _ | i <;> rcases j with _ | _ | _ | j
 ·rfl
 ·exact absurd e (Nat.ne_of_lt (l1 _))
 ·exact absurd e h
 ·exact absurd e (Nat.ne_of_lt (l1 _))
 ·exact absurd e.symm (Nat.ne_of_lt (l1 _))
 ·rfl
 ·exact absurd e.symm (Nat.ne_of_lt (l2 _))
 ·exact absurd e (l3 _)
 ·exact absurd e.symm h
 ·exact absurd e (Nat.ne_of_lt (l2 _))
 ·rfl
 ·exact absurd e (Nat.ne_of_lt (l2 _))
 ·exact absurd e.symm (Nat.ne_of_lt (l1 _))
 ·exact absurd e.symm (l3 _)
 ·exact absurd e.symm (Nat.ne_of_lt (l2 _))
 ·exact congrArg (· + 1) (Nat.add_left_cancel e)
end
theorem zkW {cx : XCx} {dom : List (List Nat)} {cv : List Nat → Option D} {ck : (Nat → List D → Option D) → Prop} (hx0 : ∀ a o,cx.h0.get? a = some o → ¬ cx.X a) (hk0 : cx.cok fun _ _ => none) (hcx : ∀ T,Inj T → CxOk (cx.withT T))
  {ε : Sc} {i i1 i2 : Nat} {fn : Fn} {fd : FuncData} {st1 : Stmt} {lx : Str} {p1 p2 p3 : Pos} {rest : List Stmt} {ps : List Str} {sx : S} {n : Nat} {cf : CfT} (X : ∀ T,FnIs (cx.withT T) ε i fn fd (st1 :: .Assign [.Name lx p1] (.Dict [] [] p2) p3 :: rest) ps)
  (hc : ∀ T,OkT cx T → CallOK (cx.withC T dom cv ck) n cf) (h1 : ∀ T,SoundS (cx.withT T) ε st1 (newTok i1 0)) (hx2 : ε.vars.lookup lx = some i2) (hf2 : ε.kinds.lookup lx ≠ some .free) (hsw : ∀ env : Env,swapsWith (.Dict [] [] p2) (some (.Name lx p1)) p3.line env = pure false)
  (hs : ∀ T,OkT cx T → SoundSs (cx.withC T dom cv ck) ε rest sx)
  {ns : List Int} {ρ ρ' : List Slot} (hb : bindD fn [.list (ns.map .int)] = some ρ) (hp : PlainRho ρ) (hn : noApp i1 ρ = true) (hl : i1 < ρ.length)
  (he : ex cf sx ((ρ.set i1 (.val (.tok 0))).set i2 (.val (.tok 2))) = some (ρ',.ret (.bool true)))
  {A : Around} {F : AP} {s : Shared} {v : Value} (bud : Bud (n + 1) A) (w : Wd cx F s) (q : Rep cx.T F s.heap v (.list (ns.map .int))) {Rs : Result → Shared → Prop}
  (hR : ∀ T F' s',OkT cx T → Wd (cx.withC T dom cv ck) F' s' → s'.os = s.os → Rs (.ok (.ret (.bool true))) s') (hd1 : dSlot i1 = false := by rfl) : codeAny (model cx.prog cx.w) A (.call (.ref (cx.fa i)) ⟨[v],[]⟩) Rs s := by
 have inj0 : Inj (fun k : Nat => (k : Addr)) := fun i j e => e
 have ok0 := hcx _ inj0
 have w0 : Wd (cx.withT fun k : Nat => (k : Addr)) F s := ⟨w.base,w.xi,w.gens,w.f0,w.lt,w.nx,w.xex⟩
 refine zgl (cx := cx.withT fun k : Nat => (k : Addr)) (X fun k : Nat => (k : Addr)) ok0 hb bud w0 (.cons (ziV (fun _ h => h) q) .nil) fun A' env F₁ s₁ s₂ m cm Q E O fr => ?_
 have ht : ε.top = true → A'.frames = some [env] := fun h => nomatch (X fun k : Nat => (k : Addr)).top.symm.trans h
 refine wpAny_execs_cons ?_
 refine h1 (fun k : Nat => (k : Addr)) n (fun _ _ => none) A' env F₁ s₂ ρ _ m cm ⟨ok0,(X fun k : Nat => (k : Addr)).sc,⟨hk0,fun _ _ _ e => nomatch e⟩,O.bud,O.wd,fr,ht⟩ _ _ (zjW hn hd1) _ _ fun f F' s' ad' m' cm' x fr' out => ?_
 cases out
 refine wpAny_execs_cons (wpAny_Assign_Name (wpAny_Dict_empty ?_) (hsw env))
 have hfr : s'.heap.get? s'.heap.objs.size = none := zaz _
 have st := Step.push ok0 x.wd { cls := .type "dict",data := .dict #[] } s'.toks
 have fr2 := fr'.step x.wd st
 have hg := Heap.DictOf.new (knd := PySem.strKind cx.prog cx.w) s'.heap
 have hset : ∀ j,slotAt (ρ.set i1 (.own [.str (tokC 0)])) j = if j = i1 then .own [.str (tokC 0)] else slotAt ρ j := fun j => by rw [zaV,if_pos hl]
 have hset' : ∀ j,slotAt (ρ.set i1 (.val (.tok 0))) j = if j = i1 then .val (.tok 0) else slotAt ρ j := fun j => by rw [zaV,if_pos hl]
 have own1 := fr'.own i1 _ (by rw [hset,if_pos rfl])
 have hne : ad' i1 ≠ s'.heap.objs.size := fun e => by
  obtain ⟨o,eo⟩ := own1.2.2.1
  rw [e,hfr] at eo; injection eo
 have okT : OkT cx (tokL (ad' i1) s'.heap.objs.size) := by
  refine ⟨zkh _ _ hne,fun a o e ea => ?_,x.wd.newNotX hfr, ?_⟩
  ·have := x.wd.base a o e (hx0 a o e)
   rw [ea] at this
   rw [show s'.heap.get? (tokL (ad' i1) s'.heap.objs.size 2) = none from hfr] at this; injection this
  ·obtain ⟨o,e⟩ := zlr ok0.glob
   have h := Heap.lt_size (x.wd.base _ _ e ok0.gx)
   exact beq_false_of_ne fun e => absurd (show mainGlobals < sysModules from e ▸ h) (by decide)
 obtain ⟨w1,f1⟩ := fr2.retok (T' := tokL (ad' i1) s'.heap.objs.size) (X' := fun a => cx.X a ∨ a = tokL (ad' i1) s'.heap.objs.size 2) (XF' := fun F h => cx.XF F h ∧ CacheAt cx.prog cx.w (tokL (ad' i1) s'.heap.objs.size) dom cv F h) (ck := ck) (ρ' := ρ.set i1 (.val (.tok 0))) st.wd (fun _ h => .inl h)
  (fun a h => h.imp_right fun e => by
   subst e
   refine ⟨fun f => ?_,fun hm => ?_,let ⟨o,_,_,g,_⟩ := hg; ⟨o,g⟩⟩
   ·obtain ⟨o,eo⟩ := x.wd.lt _ f
    rw [show s'.heap.get? (tokL (ad' i1) s'.heap.objs.size 2) = none from hfr] at eo; injection eo
   ·obtain ⟨o,eo⟩ := fr'.isSome hm
    rw [show s'.heap.get? (tokL (ad' i1) s'.heap.objs.size 2) = none from hfr] at eo; injection eo)
  ⟨ok0.xi _ _ _ _ st.wd.xi (fun _ h => .inl h) fun _ _ _ e => e,[],.mk hg fun x hx => nomatch hx⟩ fun j => by
  rw [hset,hset']
  by_cases hj : j = i1
  ·subst hj
   rw [if_pos rfl,if_pos rfl]
   exact .inl ⟨0,rfl,rfl,rfl⟩
  ·rw [if_neg hj,if_neg hj]
   exact .inr ⟨hp j,rfl⟩
 have H1 : HereS (cx.withC (tokL (ad' i1) s'.heap.objs.size) dom cv ck) ε n cf A' env _ _ _ ad' m' cm' := ⟨(hcx _ okT.inj).withC hx0 okT,(X fun k : Nat => (k : Addr)).sc,hc _ okT,O.bud,w1,f1,ht⟩
 refine zb1 H1 (Step.refl w1) hx2 hf2 (d := .tok 2) (Rep.tok (T := tokL (ad' i1) s'.heap.objs.size) (k := 2) fun h => absurd h (by decide)) fun s3 m3 cm3 x3 f3 => ?_
 refine hs _ okT n cf A' env _ s3 _ ad' m3 cm3 (H1.stepS x3 f3) ρ' _ he _ _ fun f F'' s'' ad'' m'' cm'' x' fr'' out' => ?_
 cases out' with
 | ret r =>
  cases r
  exact O.ret _ _ (hR _ F'' s'' okT x'.wd (x'.os.trans (x3.os.trans (x.os.trans (O.os.trans O.st.os)))))
end Mine
end
section
open PySem
namespace Mine
noncomputable def s_escape : S := (.seq (.ite (.op .isInst (.cons (.var 0) (.cons (.const (.ty "str")) .nil))) (.seq (.ret (.op .translate (.cons (.var 0) .nil))) .skip) dead) .skip)
noncomputable def fn_escape : Fn := { np := 1,va := false,ns := 1,body := s_escape }
noncomputable def s_fspath : S := (.seq (.assign 1 (.op .tyOf (.cons (.var 0) .nil))) (.seq (.ite (.op .isSub (.cons (.var 1) (.cons (.tup (.cons (.const (.ty "str")) (.cons (.const (.ty "bytes")) .nil))) .nil))) (.seq (.ret (.var 0)) .skip) .skip) dead))
noncomputable def fn_fspath : Fn := { np := 1,va := false,ns := 4,body := s_fspath }
noncomputable def s_get_sep : S := (.seq (.ite (.op .isInst (.cons (.var 0) (.cons (.const (.ty "bytes")) .nil))) dead (.seq (.ret (.const (.str [47]))) .skip)) .skip)
noncomputable def fn_get_sep : Fn := { np := 1,va := false,ns := 1,body := s_get_sep }
noncomputable def s_join : S := (.seq (.assign 0 (.call 2 (.cons (.var 0) .nil))) (.seq (.assign 2 (.call 3 (.cons (.var 0) .nil))) (.seq (.assign 3 (.var 0)) (.seq (.try_ (.seq (.forE 4 (.seqI (.var 1)) (.seq (.assign 4 (.call 2 (.cons (.var 4) .nil))) (.seq (.ite (.or (.op .startswith (.cons (.var 4) (.cons (.var 2) .nil))) (.not (.var 3))) (.seq (.assign 3 (.var 4)) .skip) (.seq (.ite (.op .endswith (.cons (.var 3) (.cons (.var 2) .nil))) (.seq (.aug 3 (.var 4)) .skip) (.seq (.aug 3 (.op .add (.cons (.var 2) (.cons (.var 4) .nil)))) .skip)) .skip)) .skip))) .skip)) (.seq (.ret (.var 3)) .skip)))))
noncomputable def fn_join : Fn := { np := 1,va := true,ns := 5,body := s_join }
noncomputable def s_split : S := (.seq (.assign 0 (.call 2 (.cons (.var 0) .nil))) (.seq (.assign 1 (.call 3 (.cons (.var 0) .nil))) (.seq (.assign 2 (.op .add (.cons (.op .rfind (.cons (.var 0) (.cons (.var 1) .nil))) (.cons (.const (.int 1)) .nil)))) (.seq (.assign2 3 4 (.tup (.cons (.op .slice (.cons (.var 0) (.cons (.const .none) (.cons (.var 2) .nil)))) (.cons (.op .slice (.cons (.var 0) (.cons (.var 2) (.cons (.const .none) .nil)))) .nil)))) (.seq (.ite (.and (.var 3) (.op .ne (.cons (.var 3) (.cons (.op .mul (.cons (.var 1) (.cons (.op .len (.cons (.var 3) .nil)) .nil))) .nil)))) (.seq (.assign 3 (.op .rstrip (.cons (.var 3) (.cons (.var 1) .nil)))) .skip) .skip) (.seq (.ret (.tup (.cons (.var 3) (.cons (.var 4) .nil)))) .skip))))))
noncomputable def fn_split : Fn := { np := 1,va := false,ns := 5,body := s_split }
noncomputable def s_law_one : S := (.seq (.ite (.or (.op .eq (.cons (.var 0) (.cons (.const (.str [46])) .nil))) (.op .eq (.cons (.var 0) (.cons (.const (.str [40,63,33,41])) .nil)))) (.seq (.ret (.op .eq (.cons (.var 0) (.cons (.const (.str [46])) .nil)))) .skip) .skip) (.seq (.ite (.op .ne (.cons (.op .index (.cons (.var 0) (.cons (.const (.int 0)) .nil))) (.cons (.const (.str [91])) .nil))) (.seq (.ret (.op .eq (.cons (.op .index (.cons (.var 0) (.cons (.op .neg (.cons (.const (.int 1)) .nil)) .nil))) (.cons (.var 1) .nil)))) .skip) .skip) (.seq (.assign 2 (.op .slice (.cons (.var 0) (.cons (.const (.int 1)) (.cons (.op .neg (.cons (.const (.int 1)) .nil)) .nil))))) (.seq (.assign 3 (.op .eq (.cons (.op .index (.cons (.var 2) (.cons (.const (.int 0)) .nil))) (.cons (.const (.str [94])) .nil)))) (.seq (.assign 4 (.ite (.var 3) (.const (.int 1)) (.const (.int 0)))) (.seq (.assign 5 (.const (.bool false))) (.seq (.while (.op .lt (.cons (.var 4) (.cons (.op .len (.cons (.var 2) .nil)) .nil))) (.seq (.ite (.op .eq (.cons (.op .index (.cons (.var 2) (.cons (.var 4) .nil))) (.cons (.const (.str [92])) .nil))) (.seq (.assign 4 (.op .add (.cons (.var 4) (.cons (.const (.int 1)) .nil)))) .skip) .skip) (.seq (.assign 6 (.op .index (.cons (.var 2) (.cons (.var 4) .nil)))) (.seq (.assign 7 (.var 6)) (.seq (.assign 4 (.op .add (.cons (.var 4) (.cons (.const (.int 1)) .nil)))) (.seq (.ite (.and (.op .lt (.cons (.op .add (.cons (.var 4) (.cons (.const (.int 1)) .nil))) (.cons (.op .len (.cons (.var 2) .nil)) .nil))) (.op .eq (.cons (.op .index (.cons (.var 2) (.cons (.var 4) .nil))) (.cons (.const (.str [45])) .nil)))) (.seq (.assign 4 (.op .add (.cons (.var 4) (.cons (.const (.int 1)) .nil)))) (.seq (.ite (.op .eq (.cons (.op .index (.cons (.var 2) (.cons (.var 4) .nil))) (.cons (.const (.str [92])) .nil))) (.seq (.assign 4 (.op .add (.cons (.var 4) (.cons (.const (.int 1)) .nil)))) .skip) .skip) (.seq (.assign 7 (.op .index (.cons (.var 2) (.cons (.var 4) .nil)))) (.seq (.assign 4 (.op .add (.cons (.var 4) (.cons (.const (.int 1)) .nil)))) .skip)))) .skip) (.seq (.ite (.and (.op .le (.cons (.var 6) (.cons (.var 1) .nil))) (.op .le (.cons (.var 1) (.cons (.var 7) .nil)))) (.seq (.assign 5 (.const (.bool true))) .skip) .skip) .skip))))))) (.seq (.ret (.op .ne (.cons (.var 5) (.cons (.var 3) .nil)))) .skip))))))))
noncomputable def fn_law_one : Fn := { np := 2,va := false,ns := 8,body := s_law_one }
noncomputable def s_law_takes : S := (.seq (.assign 3 (.list (.cons (.const (.int 0)) .nil))) (.seq (.forE 4 (.seqI (.var 0)) (.seq (.ite (.op .is_ (.cons (.var 4) (.cons (.var 1) .nil))) (.seq (.assign 3 (.ite (.var 3) (.op .listOf (.cons (.rangeI (.cons (.op .index (.cons (.var 3) (.cons (.const (.int 0)) .nil))) (.cons (.op .add (.cons (.op .len (.cons (.var 2) .nil)) (.cons (.const (.int 1)) .nil))) .nil))) .nil)) (.list .nil))) .skip) (.seq (.assign 3 (.comp 5 (.seqI (.var 3)) (.and (.op .lt (.cons (.var 5) (.cons (.op .len (.cons (.var 2) .nil)) .nil))) (.call 14 (.cons (.var 4) (.cons (.op .index (.cons (.var 2) (.cons (.var 5) .nil))) .nil)))) (.op .add (.cons (.var 5) (.cons (.const (.int 1)) .nil))))) .skip)) .skip)) (.seq (.ret (.op .in_ (.cons (.op .len (.cons (.var 2) .nil)) (.cons (.var 3) .nil)))) .skip)))
noncomputable def fn_law_takes : Fn := { np := 3,va := false,ns := 6,body := s_law_takes }
noncomputable def s_law_means : S := (.seq (.ite (.not (.var 0)) (.seq (.ret (.op .eq (.cons (.var 1) (.cons (.const (.str [])) .nil)))) .skip) .skip) (.seq (.ite (.op .is_ (.cons (.op .index (.cons (.var 0) (.cons (.const (.int 0)) .nil))) (.cons (.const .none) .nil))) (.seq (.ret (.op .ne (.cons (.comp 2 (.rangeI (.cons (.op .add (.cons (.op .len (.cons (.var 1) .nil)) (.cons (.const (.int 1)) .nil))) .nil)) (.call 16 (.cons (.op .slice (.cons (.var 0) (.cons (.const (.int 1)) (.cons (.const .none) .nil)))) (.cons (.op .slice (.cons (.var 1) (.cons (.var 2) (.cons (.const .none) .nil)))) .nil))) (.const (.int 1))) (.cons (.list .nil) .nil)))) .skip) .skip) (.seq (.ret (.and (.op .ne (.cons (.var 1) (.cons (.const (.str [])) .nil))) (.and (.op .in_ (.cons (.op .index (.cons (.var 1) (.cons (.const (.int 0)) .nil))) (.cons (.op .index (.cons (.var 0) (.cons (.const (.int 0)) .nil))) .nil))) (.call 16 (.cons (.op .slice (.cons (.var 0) (.cons (.const (.int 1)) (.cons (.const .none) .nil)))) (.cons (.op .slice (.cons (.var 1) (.cons (.const (.int 1)) (.cons (.const .none) .nil)))) .nil)))))) .skip)))
noncomputable def fn_law_means : Fn := { np := 2,va := false,ns := 3,body := s_law_means }
noncomputable def s_law_dressed : S := (.seq (.assign 1 (.tup (.cons (.tup (.cons (.const (.str [42])) (.cons (.list (.cons (.const .none) .nil)) .nil))) (.cons (.tup (.cons (.const (.str [97])) (.cons (.list (.cons (.const (.str [97])) .nil)) .nil))) (.cons (.tup (.cons (.const (.str [97,42])) (.cons (.list (.cons (.const (.str [97])) (.cons (.const .none) .nil))) .nil))) (.cons (.tup (.cons (.const (.str [63])) (.cons (.list (.cons (.const (.str [46,97,98])) .nil)) .nil))) (.cons (.tup (.cons (.const (.str [91,33,97,93,42])) (.cons (.list (.cons (.const (.str [46,98])) (.cons (.const .none) .nil))) .nil))) (.cons (.tup (.cons (.const (.str [42,98])) (.cons (.list (.cons (.const .none) (.cons (.const (.str [98])) .nil))) .nil))) (.cons (.tup (.cons (.const (.str [91,46,45,97,93,63])) (.cons (.list (.cons (.const (.str [46,97])) (.cons (.const (.str [46,97,98])) .nil))) .nil))) (.cons (.tup (.cons (.const (.str [46,42])) (.cons (.list (.cons (.const (.str [46])) (.cons (.const .none) .nil))) .nil))) (.cons (.tup (.cons (.const (.str [91,98,45,97,93])) (.cons (.list (.cons (.const (.str [])) .nil)) .nil))) (.cons (.tup (.cons (.const (.str [91,33,98,45,97,93,98])) (.cons (.list (.cons (.const (.str [46,97,98])) (.cons (.const (.str [98])) .nil))) .nil))) (.cons (.tup (.cons (.const (.str [98])) (.cons (.list (.cons (.const (.str [98])) .nil)) .nil))) (.cons (.tup (.cons (.const (.str [42,91,97,98,93])) (.cons (.list (.cons (.const .none) (.cons (.const (.str [97,98])) .nil))) .nil))) (.cons (.tup (.cons (.const (.str [97,63,98])) (.cons (.list (.cons (.const (.str [97])) (.cons (.const (.str [46,97,98])) (.cons (.const (.str [98])) .nil)))) .nil))) .nil))))))))))))))) (.seq (.ret (.op .index (.cons (.var 1) (.cons (.op .mod (.cons (.var 0) (.cons (.const (.int 13)) .nil))) .nil)))) .skip))
noncomputable def fn_law_dressed : Fn := { np := 1,va := false,ns := 2,body := s_law_dressed }
noncomputable def s_commonpath : S := (.seq (.assign 0 (.mapF 2 (.var 0))) (.seq (.ite (.not (.var 0)) dead .skip) (.seq (.ite (.op .isInst (.cons (.op .index (.cons (.var 0) (.cons (.const (.int 0)) .nil))) (.cons (.const (.ty "bytes")) .nil))) dead (.seq (.assign 1 (.const (.str [47]))) (.seq (.assign 2 (.const (.str [46]))) .skip))) (.seq (.try_ (.seq (.assign 3 (.comp 11 (.seqI (.var 0)) (.const (.bool true)) (.op .split (.cons (.var 11) (.cons (.var 1) .nil))))) (.seq (.try_ (.seq (.assign 4 (.setI 12 (.seqI (.var 0)) (.op .startswith (.cons (.var 12) (.cons (.var 1) .nil))))) .skip)) (.seq (.assign 3 (.comp 13 (.seqI (.var 3)) (.const (.bool true)) (.comp 14 (.seqI (.var 13)) (.and (.var 14) (.op .ne (.cons (.var 14) (.cons (.var 2) .nil)))) (.var 14)))) (.seq (.assign 6 (.op .min (.cons (.var 3) .nil))) (.seq (.assign 7 (.op .max (.cons (.var 3) .nil))) (.seq (.assign 8 (.var 6)) (.seq (.forE2 9 5 (.enumI (.var 6)) (.seq (.ite (.op .ne (.cons (.var 5) (.cons (.op .index (.cons (.var 7) (.cons (.var 9) .nil))) .nil))) (.seq (.assign 8 (.op .slice (.cons (.var 6) (.cons (.const .none) (.cons (.var 9) .nil))))) (.seq .brk .skip)) .skip) .skip)) (.seq (.assign 10 (.ite (.var 4) (.var 1) (.op .slice (.cons (.var 1) (.cons (.const .none) (.cons (.const (.int 0)) .nil)))))) (.seq (.ret (.op .add (.cons (.var 10) (.cons (.op .join (.cons (.var 1) (.cons (.var 8) .nil))) .nil)))) .skip)))))))))) .skip))))
noncomputable def fn_commonpath : Fn := { np := 1,va := false,ns := 15,body := s_commonpath }
noncomputable def s_splitroot : S := (.seq (.assign 0 (.call 2 (.cons (.var 0) .nil))) (.seq (.ite (.op .isInst (.cons (.var 0) (.cons (.const (.ty "bytes")) .nil))) dead (.seq (.assign 1 (.const (.str [47]))) (.seq (.assign 2 (.const (.str []))) .skip))) (.seq (.ite (.op .ne (.cons (.op .slice (.cons (.var 0) (.cons (.const .none) (.cons (.const (.int 1)) .nil)))) (.cons (.var 1) .nil))) (.seq (.ret (.tup (.cons (.var 2) (.cons (.var 2) (.cons (.var 0) .nil))))) .skip) (.seq (.ite (.or (.op .ne (.cons (.op .slice (.cons (.var 0) (.cons (.const (.int 1)) (.cons (.const (.int 2)) .nil)))) (.cons (.var 1) .nil))) (.op .eq (.cons (.op .slice (.cons (.var 0) (.cons (.const (.int 2)) (.cons (.const (.int 3)) .nil)))) (.cons (.var 1) .nil)))) (.seq (.ret (.tup (.cons (.var 2) (.cons (.var 1) (.cons (.op .slice (.cons (.var 0) (.cons (.const (.int 1)) (.cons (.const .none) .nil)))) .nil))))) .skip) (.seq (.ret (.tup (.cons (.var 2) (.cons (.op .slice (.cons (.var 0) (.cons (.const .none) (.cons (.const (.int 2)) .nil)))) (.cons (.op .slice (.cons (.var 0) (.cons (.const (.int 2)) (.cons (.const .none) .nil)))) .nil))))) .skip)) .skip)) .skip)))
noncomputable def fn_splitroot : Fn := { np := 1,va := false,ns := 3,body := s_splitroot }
noncomputable def s_basename : S := (.seq (.assign 0 (.call 2 (.cons (.var 0) .nil))) (.seq (.assign 1 (.call 3 (.cons (.var 0) .nil))) (.seq (.assign 2 (.op .add (.cons (.op .rfind (.cons (.var 0) (.cons (.var 1) .nil))) (.cons (.const (.int 1)) .nil)))) (.seq (.ret (.op .slice (.cons (.var 0) (.cons (.var 2) (.cons (.const .none) .nil))))) .skip))))
noncomputable def fn_basename : Fn := { np := 1,va := false,ns := 3,body := s_basename }
noncomputable def s_normpath : S := (.seq (.assign 0 (.call 2 (.cons (.var 0) .nil))) (.seq (.ite (.op .isInst (.cons (.var 0) (.cons (.const (.ty "bytes")) .nil))) dead (.seq (.assign 1 (.const (.str [47]))) (.seq (.assign 2 (.const (.str [46]))) (.seq (.assign 3 (.const (.str [46,46]))) .skip)))) (.seq (.ite (.not (.var 0)) (.seq (.ret (.var 2)) .skip) .skip) (.seq (.assign3 4 5 0 (.call 7 (.cons (.var 0) .nil))) (.seq (.assign 6 (.op .split (.cons (.var 0) (.cons (.var 1) .nil)))) (.seq (.assignO 7 (.list .nil)) (.seq (.forE 8 (.seqI (.var 6)) (.seq (.ite (.or (.not (.var 8)) (.op .eq (.cons (.var 8) (.cons (.var 2) .nil)))) (.seq .cont .skip) .skip) (.seq (.ite (.or (.op .ne (.cons (.var 8) (.cons (.var 3) .nil))) (.or (.and (.not (.var 5)) (.not (.var 7))) (.and (.var 7) (.op .eq (.cons (.op .index (.cons (.var 7) (.cons (.op .neg (.cons (.const (.int 1)) .nil)) .nil))) (.cons (.var 3) .nil)))))) (.seq (.append 7 (.var 8)) .skip) (.seq (.ite (.var 7) (.seq (.pop 7) .skip) .skip) .skip)) .skip))) (.seq (.seq (.fz 7) (.assign 6 (.var 7))) (.seq (.assign 0 (.op .add (.cons (.var 5) (.cons (.op .join (.cons (.var 1) (.cons (.var 6) .nil))) .nil)))) (.seq (.ret (.or (.var 0) (.var 2))) .skip))))))))))
noncomputable def fn_normpath : Fn := { np := 1,va := false,ns := 9,body := s_normpath }
noncomputable def s_law_front : S := (.seq (.assign 3 (.comp 7 (.rangeI (.cons (.op .add (.cons (.op .len (.cons (.var 1) .nil)) (.cons (.const (.int 1)) .nil))) .nil)) (.const (.bool true)) (.op .eq (.cons (.var 7) (.cons (.const (.int 0)) .nil))))) (.seq (.forE2 4 5 (.seqI (.var 0)) (.seq (.assignO 6 (.list .nil)) (.seq (.forE 2 (.rangeI (.cons (.op .add (.cons (.op .len (.cons (.var 1) .nil)) (.cons (.const (.int 1)) .nil))) .nil)) (.seq (.ite (.op .eq (.cons (.var 4) (.cons (.const (.str [42,42])) .nil))) (.seq (.append 6 (.or (.op .index (.cons (.var 3) (.cons (.var 2) .nil))) (.and (.op .gt (.cons (.var 2) (.cons (.const (.int 0)) .nil))) (.op .index (.cons (.var 6) (.cons (.op .sub (.cons (.var 2) (.cons (.const (.int 1)) .nil))) .nil)))))) .skip) (.seq (.append 6 (.and (.op .gt (.cons (.var 2) (.cons (.const (.int 0)) .nil))) (.and (.op .index (.cons (.var 3) (.cons (.op .sub (.cons (.var 2) (.cons (.const (.int 1)) .nil))) .nil))) (.call 16 (.cons (.var 5) (.cons (.op .index (.cons (.var 1) (.cons (.op .sub (.cons (.var 2) (.cons (.const (.int 1)) .nil))) .nil))) .nil)))))) .skip)) .skip)) (.seq (.seq (.fz 6) (.assign 3 (.var 6))) .skip)))) (.seq (.ret (.op .index (.cons (.var 3) (.cons (.op .neg (.cons (.const (.int 1)) .nil)) .nil)))) .skip)))
noncomputable def fn_law_front : Fn := { np := 2,va := false,ns := 8,body := s_law_front }
noncomputable def cp05 : CacheP := { tf := 1,qm := [46],dom := [[42],[97],[97,42],[63],[91,33,97,93,42],[42,98],[91,46,45,97,93,63],[46,42],[91,98,45,97,93],[91,33,98,45,97,93,98],[98],[42,91,97,98,93],[97,63,98]] }
end Mine
end
section
open PySem
noncomputable section
namespace Mine
noncomputable def s_translate5 : S := (.seq (.assignO 3 (.list .nil)) (.seq (.alias 4 3) (.seq (.assign2 5 6 (.tup (.cons (.const (.int 0)) (.cons (.op .len (.cons (.var 0) .nil)) .nil)))) (.seq (.while (.op .lt (.cons (.var 5) (.cons (.var 6) .nil))) (.seq (.assign 7 (.op .index (.cons (.var 0) (.cons (.var 5) .nil)))) (.seq (.assign 5 (.op .add (.cons (.var 5) (.cons (.const (.int 1)) .nil)))) (.seq (.ite (.op .eq (.cons (.var 7) (.cons (.const (.str [42])) .nil))) (.seq (.ite (.or (.not (.var 3)) (.op .isnot (.cons (.op .index (.cons (.var 3) (.cons (.op .neg (.cons (.const (.int 1)) .nil)) .nil))) (.cons (.var 1) .nil)))) (.seq (.appendVia 4 3 (.var 1)) .skip) .skip) .skip) (.seq (.ite (.op .eq (.cons (.var 7) (.cons (.const (.str [63])) .nil))) (.seq (.appendVia 4 3 (.var 2)) .skip) (.seq (.ite (.op .eq (.cons (.var 7) (.cons (.const (.str [91])) .nil))) (.seq (.assign 8 (.var 5)) (.seq (.ite (.and (.op .lt (.cons (.var 8) (.cons (.var 6) .nil))) (.op .eq (.cons (.op .index (.cons (.var 0) (.cons (.var 8) .nil))) (.cons (.const (.str [33])) .nil)))) (.seq (.assign 8 (.op .add (.cons (.var 8) (.cons (.const (.int 1)) .nil)))) .skip) .skip) (.seq (.ite (.and (.op .lt (.cons (.var 8) (.cons (.var 6) .nil))) (.op .eq (.cons (.op .index (.cons (.var 0) (.cons (.var 8) .nil))) (.cons (.const (.str [93])) .nil)))) (.seq (.assign 8 (.op .add (.cons (.var 8) (.cons (.const (.int 1)) .nil)))) .skip) .skip) (.seq (.while (.and (.op .lt (.cons (.var 8) (.cons (.var 6) .nil))) (.op .ne (.cons (.op .index (.cons (.var 0) (.cons (.var 8) .nil))) (.cons (.const (.str [93])) .nil)))) (.seq (.assign 8 (.op .add (.cons (.var 8) (.cons (.const (.int 1)) .nil)))) .skip)) (.seq (.ite (.op .ge (.cons (.var 8) (.cons (.var 6) .nil))) (.seq (.appendVia 4 3 (.const (.str [92,91]))) .skip) (.seq (.assign 9 (.op .slice (.cons (.var 0) (.cons (.var 5) (.cons (.var 8) .nil))))) (.seq (.ite (.op .notin (.cons (.const (.str [45])) (.cons (.var 9) .nil))) (.seq (.assign 9 (.op .replace (.cons (.var 9) (.cons (.const (.str [92])) (.cons (.const (.str [92,92])) .nil))))) .skip) (.seq (.assignO 10 (.list .nil)) (.seq (.assign 11 (.ite (.op .eq (.cons (.op .index (.cons (.var 0) (.cons (.var 5) .nil))) (.cons (.const (.str [33])) .nil))) (.op .add (.cons (.var 5) (.cons (.const (.int 2)) .nil))) (.op .add (.cons (.var 5) (.cons (.const (.int 1)) .nil))))) (.seq (.while (.const (.bool true)) (.seq (.assign 11 (.op .find4 (.cons (.var 0) (.cons (.const (.str [45])) (.cons (.var 11) (.cons (.var 8) .nil)))))) (.seq (.ite (.op .lt (.cons (.var 11) (.cons (.const (.int 0)) .nil))) (.seq .brk .skip) .skip) (.seq (.append 10 (.op .slice (.cons (.var 0) (.cons (.var 5) (.cons (.var 11) .nil))))) (.seq (.assign 5 (.op .add (.cons (.var 11) (.cons (.const (.int 1)) .nil)))) (.seq (.assign 11 (.op .add (.cons (.var 11) (.cons (.const (.int 3)) .nil)))) .skip)))))) (.seq (.assign 12 (.op .slice (.cons (.var 0) (.cons (.var 5) (.cons (.var 8) .nil))))) (.seq (.ite (.var 12) (.seq (.append 10 (.var 12)) .skip) dead) (.seq (.forE 11 (.rangeI (.cons (.op .sub (.cons (.op .len (.cons (.var 10) .nil)) (.cons (.const (.int 1)) .nil))) (.cons (.const (.int 0)) (.cons (.op .neg (.cons (.const (.int 1)) .nil)) .nil)))) (.seq (.ite (.op .gt (.cons (.op .index (.cons (.op .index (.cons (.var 10) (.cons (.op .sub (.cons (.var 11) (.cons (.const (.int 1)) .nil))) .nil))) (.cons (.op .neg (.cons (.const (.int 1)) .nil)) .nil))) (.cons (.op .index (.cons (.op .index (.cons (.var 10) (.cons (.var 11) .nil))) (.cons (.const (.int 0)) .nil))) .nil))) (.seq (.setItem 10 (.op .sub (.cons (.var 11) (.cons (.const (.int 1)) .nil))) (.op .add (.cons (.op .slice (.cons (.op .index (.cons (.var 10) (.cons (.op .sub (.cons (.var 11) (.cons (.const (.int 1)) .nil))) .nil))) (.cons (.const .none) (.cons (.op .neg (.cons (.const (.int 1)) .nil)) .nil)))) (.cons (.op .slice (.cons (.op .index (.cons (.var 10) (.cons (.var 11) .nil))) (.cons (.const (.int 1)) (.cons (.const .none) .nil)))) .nil)))) (.seq (.delItem 10 (.var 11)) .skip)) .skip) .skip)) (.seq (.seq (.fz 10) (.assign 9 (.op .join (.cons (.const (.str [45])) (.cons (.comp 13 (.seqI (.var 10)) (.const (.bool true)) (repX 13 [92] [92,92] [45] [92,45])) .nil))))) .skip)))))))) (.seq (.assign 9 (.op .resub0 (.cons (.var 9) .nil))) (.seq (.assign 5 (.op .add (.cons (.var 8) (.cons (.const (.int 1)) .nil)))) (.seq (.ite (.not (.var 9)) (.seq (.appendVia 4 3 (.const (.str [40,63,33,41]))) .skip) (.seq (.ite (.op .eq (.cons (.var 9) (.cons (.const (.str [33])) .nil))) (.seq (.appendVia 4 3 (.const (.str [46]))) .skip) (.seq (.ite (.op .eq (.cons (.op .index (.cons (.var 9) (.cons (.const (.int 0)) .nil))) (.cons (.const (.str [33])) .nil))) (.seq (.assign 9 (.op .add (.cons (.const (.str [94])) (.cons (.op .slice (.cons (.var 9) (.cons (.const (.int 1)) (.cons (.const .none) .nil)))) .nil)))) .skip) (.seq (.ite (.op .in_ (.cons (.op .index (.cons (.var 9) (.cons (.const (.int 0)) .nil))) (.cons (.tup (.cons (.const (.str [94])) (.cons (.const (.str [91])) .nil))) .nil))) (.seq (.assign 9 (.op .add (.cons (.const (.str [92])) (.cons (.var 9) .nil)))) .skip) .skip) .skip)) (.seq (.appendVia 4 3 (.op .fmt (.cons (.const (.str [91])) (.cons (.var 9) (.cons (.const (.str [93])) .nil))))) .skip))) .skip)) .skip)))))) .skip))))) (.seq (.appendVia 4 3 (.call 0 (.cons (.var 7) .nil))) .skip)) .skip)) .skip)) .skip)))) (.seq (.assert (.op .eq (.cons (.var 5) (.cons (.var 6) .nil)))) (.seq (.seq (.fz 3) (.ret (.var 3))) .skip))))))
noncomputable def fn_translate5 : Fn := { np := 3,va := false,ns := 14,body := s_translate5 }
noncomputable def s_law_tree : S := (.seq (.assignO 1 (.list (.cons (.const (.str [])) .nil))) (.seq (.forE 2 (.rangeI (.cons (.op .len (.cons (.var 0) .nil)) .nil)) (.seq (.assign 3 (.op .add (.cons (.op .abs (.cons (.op .index (.cons (.var 0) (.cons (.var 2) .nil))) .nil)) (.cons (.op .index (.cons (.tup (.cons (.const (.int 0)) (.cons (.const (.int 7)) (.cons (.const (.int 44)) (.cons (.const (.int 83)) (.cons (.const (.int 122)) (.cons (.const (.int 190)) .nil))))))) (.cons (.var 2) .nil))) .nil)))) (.seq (.assign 4 (.const (.str []))) (.seq (.forE 5 (.rangeI (.cons (.op .add (.cons (.const (.int 1)) (.cons (.op .mod (.cons (.var 3) (.cons (.const (.int 3)) .nil))) .nil))) .nil)) (.seq (.assign 3 (.op .fdiv (.cons (.var 3) (.cons (.const (.int 3)) .nil)))) (.seq (.assign 4 (.call 4 (.cons (.var 4) (.cons (.op .index (.cons (.tup (.cons (.const (.str [97])) (.cons (.const (.str [98])) (.cons (.const (.str [46,97])) (.cons (.const (.str [97,98])) .nil))))) (.cons (.op .mod (.cons (.var 3) (.cons (.const (.int 4)) .nil))) .nil))) .nil)))) (.seq (.ite (.op .notin (.cons (.var 4) (.cons (.var 1) .nil))) (.seq (.append 1 (.var 4)) .skip) .skip) .skip)))) .skip)))) (.seq (.seq (.fz 1) (.ret (.var 1))) .skip)))
noncomputable def fn_law_tree : Fn := { np := 1,va := false,ns := 6,body := s_law_tree }
noncomputable def s_law_behind : S := (.seq (.ite (.op .eq (.cons (.var 0) (.cons (.const (.str [])) .nil))) (.seq (.ret (.op .eq (.cons (.var 1) (.cons (.const (.str [])) .nil)))) .skip) .skip) (.seq (.assign2 4 5 (.call 5 (.cons (.var 0) .nil))) (.seq (.assign2 6 7 (.call 5 (.cons (.var 1) .nil))) (.seq (.ite (.op .eq (.cons (.var 5) (.cons (.const (.str [42,42])) .nil))) (.seq (.ite (.call 29 (.cons (.var 4) (.cons (.var 1) (.cons (.var 2) (.cons (.var 3) .nil))))) (.seq (.ret (.const (.bool true))) .skip) .skip) (.seq (.ret (.and (.op .ne (.cons (.var 1) (.cons (.const (.str [])) .nil))) (.call 29 (.cons (.var 0) (.cons (.var 6) (.cons (.var 2) (.cons (.var 3) .nil))))))) .skip)) .skip) (.seq (.ite (.op .eq (.cons (.var 1) (.cons (.const (.str [])) .nil))) (.seq (.ret (.const (.bool false))) .skip) .skip) (.seq (guard (cpreP cp05 (.var 5) 2 3)) (.seq (.ret (.and (.call 15 (.cons (tcall cp05 (.var 5) 2) (.cons (.var 2) (.cons (.var 7) .nil)))) (.call 29 (.cons (.var 4) (.cons (.var 6) (.cons (.var 2) (.cons (.var 3) .nil))))))) .skip)))))))
noncomputable def fn_law_behind : Fn := { np := 4,va := false,ns := 8,body := s_law_behind }
noncomputable def s_law : S := (.seq (.assign 4 (.comp 18 (.rangeI (.cons (.const (.int 9)) .nil)) (.const (.bool true)) (.op .abs (.cons (.op .sum (.cons (.op .slice3 (.cons (.var 0) (.cons (.var 18) (.cons (.const .none) (.cons (.const (.int 9)) .nil))))) .nil)) .nil)))) (.seq (.assign 5 (.call 28 (.cons (.op .slice (.cons (.var 4) (.cons (.const .none) (.cons (.const (.int 4)) .nil)))) .nil))) (.seq (.forE 6 (.seqI (.op .slice (.cons (.var 5) (.cons (.const (.int 1)) (.cons (.const .none) .nil))))) (.seq (.ite (.op .ne (.cons (.call 9 (.cons (.call 4 (.cons (.var 6) (.cons (.const (.str [46,46])) (.cons (.call 8 (.cons (.var 6) .nil)) .nil)))) .nil)) (.cons (.var 6) .nil))) (.seq (.ret (.const (.bool false))) .skip) .skip) .skip)) (.seq (.forE 3 (.rangeI (.cons (.const (.int 5)) .nil)) (.seq (.assign 7 (.op .add (.cons (.op .index (.cons (.var 4) (.cons (.op .add (.cons (.const (.int 4)) (.cons (.var 3) .nil))) .nil))) (.cons (.op .index (.cons (.tup (.cons (.const (.int 18)) (.cons (.const (.int 91)) (.cons (.const (.int 4)) (.cons (.const (.int 325)) (.cons (.const (.int 326)) .nil)))))) (.cons (.var 3) .nil))) .nil)))) (.seq (.assignO 8 (.list .nil)) (.seq (.forE 9 (.rangeI (.cons (.op .add (.cons (.const (.int 1)) (.cons (.op .mod (.cons (.var 7) (.cons (.const (.int 4)) .nil))) .nil))) .nil)) (.seq (.assign 7 (.op .fdiv (.cons (.var 7) (.cons (.const (.int 4)) .nil)))) (.seq (.assign 10 (.op .mod (.cons (.var 7) (.cons (.const (.int 17)) .nil)))) (.seq (.append 8 (.ite (.op .lt (.cons (.var 10) (.cons (.const (.int 13)) .nil))) (.call 17 (.cons (.var 10) .nil)) (.tup (.cons (.const (.str [42,42])) (.cons (.const .none) .nil))))) .skip)))) (.seq (.seq (.fz 8) (.assign 11 (.call 4 (.cons (.const (.str [])) (.star (.comp2 19 20 (.seqI (.var 8)) (.const (.bool true)) (.var 19))))))) (.seq (.assignO 12 (.list .nil)) (.seq (.forE 6 (.seqI (.op .slice (.cons (.var 5) (.cons (.const (.int 1)) (.cons (.const .none) .nil))))) (.seq (.assign 13 (.op .split (.cons (.var 6) (.cons (.const (.str [47])) .nil)))) (.seq (.assign 14 (.call 29 (.cons (.var 11) (.cons (.var 6) (.cons (.var 1) (.cons (.var 2) .nil)))))) (.seq (.seq (.fz 8) (.ite (.op .ne (.cons (.var 14) (.cons (.call 30 (.cons (.var 8) (.cons (.var 13) .nil))) .nil))) (.seq (.ret (.const (.bool false))) .skip) .skip)) (.seq (.ite (.var 14) (.seq (.append 12 (.var 6)) .skip) .skip) .skip))))) (.seq (.ite (.var 12) (.seq (.seq (.fz 12) (.assign 15 (.call 13 (.cons (.var 12) .nil)))) (.seq (.seq (.fz 12) (.assign 16 (.comp 21 (.seqI (.var 12)) (.const (.bool true)) (.op .split (.cons (.var 21) (.cons (.const (.str [47])) .nil)))))) (.seq (.assign 17 (.const (.int 0))) (.seq (.while (.and (.op .lt (.cons (.var 17) (.cons (.op .len (.cons (.op .index (.cons (.var 16) (.cons (.const (.int 0)) .nil))) .nil)) .nil))) (.op .eq (.cons (.comp 22 (.seqI (.var 16)) (.op .ne (.cons (.op .slice (.cons (.var 22) (.cons (.var 17) (.cons (.op .add (.cons (.var 17) (.cons (.const (.int 1)) .nil))) .nil)))) (.cons (.op .slice (.cons (.op .index (.cons (.var 16) (.cons (.const (.int 0)) .nil))) (.cons (.var 17) (.cons (.op .add (.cons (.var 17) (.cons (.const (.int 1)) .nil))) .nil)))) .nil))) (.var 22)) (.cons (.list .nil) .nil)))) (.seq (.assign 17 (.op .add (.cons (.var 17) (.cons (.const (.int 1)) .nil)))) .skip)) (.seq (.ite (.op .ne (.cons (.var 15) (.cons (.op .join (.cons (.const (.str [47])) (.cons (.op .slice (.cons (.op .index (.cons (.var 16) (.cons (.const (.int 0)) .nil))) (.cons (.const .none) (.cons (.var 17) .nil)))) .nil))) .nil))) (.seq (.ret (.const (.bool false))) .skip) .skip) .skip))))) .skip) .skip)))))))) (.seq (.ret (.const (.bool true))) .skip)))))
noncomputable def fn_law : Fn := { np := 1,va := false,ns := 23,body := s_law }
end Mine
end
section W05x
open PySem PySem.Calls PyProof.Rows PySem.Builtin.Str
set_option maxHeartbeats 4000000
namespace Mine
open PySem.Str renaming ofString → os
noncomputable abbrev NN (x : String) : Prop := (os x == os "__classdict__") = false ∧ (os x == os "__debug__") = false
noncomputable abbrev VL (s : Sc) (x : String) (i : Nat) : Prop := s.vars.lookup (os x) = some i
noncomputable abbrev KL (s : Sc) (x : String) (k : NameKind) : Prop := s.kinds.lookup (os x) = some k
theorem nLoc {s : Sc} {x : String} (h : KL s x .local) : s.kinds.lookup (os x) ≠ some .free := nfree h
theorem sVar {cx : XCx} {s : Sc} {x : String} {i : Nat} {pos : Pos} (h : VL s x i) (n : NN x) : Sound cx s (.Name (os x) pos) (.var i) := ziK h n.1 n.2
theorem zdL : NN "QUESTION_MARK" := ⟨rfl,rfl⟩
theorem zjg : NN "STAR" := ⟨rfl,rfl⟩
theorem nn_a : NN "a" := ⟨rfl,rfl⟩
theorem zhw : NN "above" := ⟨rfl,rfl⟩
theorem nn_add : NN "add" := ⟨rfl,rfl⟩
theorem nn_at : NN "at" := ⟨rfl,rfl⟩
theorem nn_b : NN "b" := ⟨rfl,rfl⟩
theorem zf1 : NN "barred" := ⟨rfl,rfl⟩
theorem zcn : NN "body" := ⟨rfl,rfl⟩
theorem nn_c : NN "c" := ⟨rfl,rfl⟩
theorem zhv : NN "chunk" := ⟨rfl,rfl⟩
theorem nn_chunks : NN "chunks" := ⟨rfl,rfl⟩
theorem zgS : NN "code" := ⟨rfl,rfl⟩
theorem zjf : NN "common" := ⟨rfl,rfl⟩
theorem zfr : NN "comp" := ⟨rfl,rfl⟩
theorem zhu : NN "comps" := ⟨rfl,rfl⟩
theorem zaW : NN "count" := ⟨rfl,rfl⟩
theorem zje : NN "curdir" := ⟨rfl,rfl⟩
theorem zjd : NN "dot" := ⟨rfl,rfl⟩
theorem zf0 : NN "dotdot" := ⟨rfl,rfl⟩
theorem zdV : NN "empty" := ⟨rfl,rfl⟩
theorem nn_found : NN "found" := ⟨rfl,rfl⟩
theorem zcS : NN "head" := ⟨rfl,rfl⟩
theorem nn_high : NN "high" := ⟨rfl,rfl⟩
theorem nn_i : NN "i" := ⟨rfl,rfl⟩
theorem zbS : NN "initial_slashes" := ⟨rfl,rfl⟩
theorem zkP : NN "isabs" := ⟨rfl,rfl⟩
theorem zc6 : NN "items" := ⟨rfl,rfl⟩
theorem nn_j : NN "j" := ⟨rfl,rfl⟩
theorem nn_k : NN "k" := ⟨rfl,rfl⟩
theorem nn_kind : NN "kind" := ⟨rfl,rfl⟩
theorem zdn : NN "left" := ⟨rfl,rfl⟩
theorem nn_lists : NN "lists" := ⟨rfl,rfl⟩
theorem zlu : NN "low" := ⟨rfl,rfl⟩
theorem zkO : NN "means" := ⟨rfl,rfl⟩
theorem nn_n : NN "n" := ⟨rfl,rfl⟩
theorem zbM : NN "name" := ⟨rfl,rfl⟩
theorem zdU : NN "names" := ⟨rfl,rfl⟩
theorem nn_new_comps : NN "new_comps" := ⟨rfl,rfl⟩
theorem zlt : NN "one" := ⟨rfl,rfl⟩
theorem nn_p : NN "p" := ⟨rfl,rfl⟩
theorem zcm : NN "part" := ⟨rfl,rfl⟩
theorem zkN : NN "parts" := ⟨rfl,rfl⟩
theorem zcJ : NN "pat" := ⟨rfl,rfl⟩
theorem nn_path : NN "path" := ⟨rfl,rfl⟩
theorem zc5 : NN "paths" := ⟨rfl,rfl⟩
theorem zbK : NN "pattern" := ⟨rfl,rfl⟩
theorem nn_pieces : NN "pieces" := ⟨rfl,rfl⟩
theorem zjc : NN "prefix" := ⟨rfl,rfl⟩
theorem nn_res : NN "res" := ⟨rfl,rfl⟩
theorem zjb : NN "row" := ⟨rfl,rfl⟩
theorem nn_s : NN "s" := ⟨rfl,rfl⟩
theorem nn_s1 : NN "s1" := ⟨rfl,rfl⟩
theorem nn_s2 : NN "s2" := ⟨rfl,rfl⟩
theorem zja : NN "script" := ⟨rfl,rfl⟩
theorem zbs : NN "sep" := ⟨rfl,rfl⟩
theorem zgR : NN "sign" := ⟨rfl,rfl⟩
theorem zfq : NN "some" := ⟨rfl,rfl⟩
theorem zbW : NN "split_paths" := ⟨rfl,rfl⟩
theorem zcR : NN "star" := ⟨rfl,rfl⟩
theorem zby : NN "stuff" := ⟨rfl,rfl⟩
theorem zfp : NN "sums" := ⟨rfl,rfl⟩
theorem nn_tail : NN "tail" := ⟨rfl,rfl⟩
theorem zht : NN "taken" := ⟨rfl,rfl⟩
theorem zi9 : NN "text" := ⟨rfl,rfl⟩
theorem nn_then : NN "then" := ⟨rfl,rfl⟩
theorem nn_tree : NN "tree" := ⟨rfl,rfl⟩
theorem zkM : NN "whole" := ⟨rfl,rfl⟩
noncomputable abbrev fs05 : List (Str × Nat) := [(os "escape",0),(os "_translate",1),(os "fspath",2),(os "_get_sep",3),(os "join",4),(os "split",5),(os "splitroot",7),(os "basename",8),(os "normpath",9),(os "commonpath",13),(os "_law_one",14),(os "_law_takes",15),(os "_law_means",16),(os "_law_dressed",17),(os "_law_tree",28),(os "_law_behind",29),(os "_law_front",30),(os "law",35)]
noncomputable abbrev bs05 : List Str := [os "str",os "bytes",os "list",os "tuple",os "len",os "abs",os "sum",os "isinstance",os "issubclass",os "type",os "range",os "min",os "max",os "sorted",os "map",os "enumerate"]
noncomputable abbrev lamPos05 : Pos := ⟨224,39,224,76⟩
noncomputable abbrev qs05 : List (Pos × Str) := [(lamPos05,(PySem.Str.ofString "_translate.<locals>.") ++ "<lambda>")]
variable {cx : XCx} (N : GN cx fs05 bs05)
include N
theorem zen : cx.mg (os "_get_sep") = some (.ref (cx.fa 3)) := N.fi 3 rfl
theorem zbT : cx.mg (os "_law_behind") = some (.ref (cx.fa 29)) := N.fi 15 rfl
theorem zfA : cx.mg (os "_law_dressed") = some (.ref (cx.fa 17)) := N.fi 13 rfl
theorem zg3 : cx.mg (os "_law_front") = some (.ref (cx.fa 30)) := N.fi 16 rfl
theorem zcT : cx.mg (os "_law_means") = some (.ref (cx.fa 16)) := N.fi 12 rfl
theorem zjO : cx.mg (os "_law_one") = some (.ref (cx.fa 14)) := N.fi 10 rfl
theorem zg2 : cx.mg (os "_law_takes") = some (.ref (cx.fa 15)) := N.fi 11 rfl
theorem zij : cx.mg (os "_law_tree") = some (.ref (cx.fa 28)) := N.fi 14 rfl
theorem zg0 : cx.mg (os "_translate") = some (.ref (cx.fa 1)) := N.fi 1 rfl
theorem zik : cx.mg (os "basename") = some (.ref (cx.fa 8)) := N.fi 7 rfl
theorem zgd : cx.mg (os "commonpath") = some (.ref (cx.fa 13)) := N.fi 9 rfl
theorem zk6 : cx.mg (os "escape") = some (.ref (cx.fa 0)) := N.fi 0 rfl
theorem zca : cx.mg (os "fspath") = some (.ref (cx.fa 2)) := N.fi 2 rfl
theorem zjP : cx.mg (os "join") = some (.ref (cx.fa 4)) := N.fi 4 rfl
theorem zii : cx.mg (os "normpath") = some (.ref (cx.fa 9)) := N.fi 8 rfl
theorem zjN : cx.mg (os "split") = some (.ref (cx.fa 5)) := N.fi 5 rfl
theorem zg1 : cx.mg (os "splitroot") = some (.ref (cx.fa 7)) := N.fi 6 rfl
theorem b_abs : cx.mg (os "abs") = none := N.bi 5 rfl
theorem zer : cx.mg (os "bytes") = none := N.bi 1 rfl
theorem zhd : cx.mg (os "enumerate") = none := N.bi 15 rfl
theorem zbC : cx.mg (os "isinstance") = none := N.bi 7 rfl
theorem zgt : cx.mg (os "issubclass") = none := N.bi 8 rfl
theorem b_len : cx.mg (os "len") = none := N.bi 4 rfl
theorem b_list : cx.mg (os "list") = none := N.bi 2 rfl
theorem b_map : cx.mg (os "map") = none := N.bi 14 rfl
theorem b_max : cx.mg (os "max") = none := N.bi 12 rfl
theorem b_min : cx.mg (os "min") = none := N.bi 11 rfl
theorem zb0 : cx.mg (os "range") = none := N.bi 10 rfl
theorem b_str : cx.mg (os "str") = none := N.bi 0 rfl
theorem b_sum : cx.mg (os "sum") = none := N.bi 6 rfl
theorem b_tuple : cx.mg (os "tuple") = none := N.bi 3 rfl
theorem b_type : cx.mg (os "type") = none := N.bi 9 rfl
omit N
noncomputable def sc_escape : Sc := { kinds := [(os "pattern",.local),(os "isinstance",.globalImplicit),(os "str",.globalImplicit),(os "_special_chars_map",.globalImplicit)],vars := [(os "pattern",0)] }
theorem zhW {cx : XCx} (N : GN cx fs05 bs05) (TG : TabG cx) (sp : cx.mg (PySem.Str.ofString "_special_chars_map") = some (.ref TG.d)) : SoundSs cx sc_escape (nthBody PySem.Challenge.pw_dn0069_05 24) s_escape := by
 unfold s_escape
 exact (zaa (zag (zan rfl (zbC N) (by decide) rfl (.builtin _) rfl (.cons (sVar rfl zbK) rfl (.cons (zaY rfl (b_str N) (by decide) rfl rfl) rfl .nil)) zck) (zaa (zal (zd4 TG rfl rfl (sVar rfl zbK) rfl sp rfl))
 zac) zaQ)
 zac)
noncomputable def sc_translate5 (c : Addr) : Sc := { kinds := [(os "pat",.local),(os "STAR",.local),(os "QUESTION_MARK",.local),(os "res",.local),(os "add",.local),(os "i",.local),(os "n",.local),(os "c",.local),(os "j",.local),(os "stuff",.local),(os "chunks",.local),(os "k",.local),(os "chunk",.local),(os "len",.globalImplicit),(os "range",.globalImplicit),(os "_twin_re_1",.globalImplicit),(os "escape",.globalImplicit)],vars := [(os "pat",0),(os "STAR",1),(os "QUESTION_MARK",2),(os "res",3),(os "add",4),(os "i",5),(os "n",6),(os "c",7),(os "j",8),(os "stuff",9),(os "chunks",10),(os "k",11),(os "chunk",12)],code := some (c,PySem.Str.ofString "_translate.<locals>.") }
theorem zeF {cx : XCx} (N : GN cx fs05 bs05) (G : LamG cx) (PG : PatG cx) (tw : cx.mg (PySem.Str.ofString "_twin_re_1") = some (.ref PG.P)) (hq : G.qs = qs05) : SoundSs cx (sc_translate5 G.c) (nthBody PySem.Challenge.pw_dn0069_05 26) s_translate5 := by
 unfold s_translate5
 exact (zaa (zaH rfl (nLoc rfl) (zap .nil) (fun _ _ _ => rfl))
 (zaa (zfU rfl (nLoc rfl) rfl nn_res.1 nn_res.2)
 (zaa (zdv rfl rfl (nLoc rfl) (nLoc rfl) (by decide) (zar (.cons (zab rfl) rfl (.cons (zan rfl (b_len N) (by decide) rfl (.builtin _) rfl (.cons (sVar rfl zcJ) rfl .nil) zb3) rfl .nil))) (fun _ => rfl) (zhi rfl rfl rfl rfl rfl rfl rfl rfl))
 (zaa (zbA (zae (sVar rfl nn_i) (sVar rfl nn_n) op_lt rfl) (zaa (zad rfl (nLoc rfl) (zaf (sVar rfl zcJ) (sVar rfl nn_i)) (fun _ _ _ => rfl))
 (zaa (zad rfl (nLoc rfl) (zah (sVar rfl nn_i) (zab rfl) zaD) (fun _ _ _ => rfl))
 (zaa (zag (zae (sVar rfl nn_c) (zab rfl) op_eq rfl) (zaa (zag (zaq (.or (zbi (sVar rfl nn_res)) (.one (zae (zaf (sVar rfl nn_res) (zbR (zab rfl) zdC (fun h => nomatch h))) (sVar rfl zjg) zkB rfl)))) (zaa (zaE rfl (show VL _ "res" 3 from rfl) nn_add.1 nn_add.2 (sVar rfl zjg) rfl)
 zac) zac)
 zac) (zaa (zag (zae (sVar rfl nn_c) (zab rfl) op_eq rfl) (zaa (zaE rfl (show VL _ "res" 3 from rfl) nn_add.1 nn_add.2 (sVar rfl zdL) rfl)
 zac) (zaa (zag (zae (sVar rfl nn_c) (zab rfl) op_eq rfl) (zaa (zad rfl (nLoc rfl) (sVar rfl nn_i) (fun _ _ _ => rfl))
 (zaa (zag (zaq (.and (zae (sVar rfl nn_j) (sVar rfl nn_n) op_lt rfl) (.one (zae (zaf (sVar rfl zcJ) (sVar rfl nn_j)) (zab rfl) op_eq rfl)))) (zaa (zad rfl (nLoc rfl) (zah (sVar rfl nn_j) (zab rfl) zaD) (fun _ _ _ => rfl))
 zac) zac)
 (zaa (zag (zaq (.and (zae (sVar rfl nn_j) (sVar rfl nn_n) op_lt rfl) (.one (zae (zaf (sVar rfl zcJ) (sVar rfl nn_j)) (zab rfl) op_eq rfl)))) (zaa (zad rfl (nLoc rfl) (zah (sVar rfl nn_j) (zab rfl) zaD) (fun _ _ _ => rfl))
 zac) zac)
 (zaa (zbA (zaq (.and (zae (sVar rfl nn_j) (sVar rfl nn_n) op_lt rfl) (.one (zae (zaf (sVar rfl zcJ) (sVar rfl nn_j)) (zab rfl) op_ne rfl)))) (zaa (zad rfl (nLoc rfl) (zah (sVar rfl nn_j) (zab rfl) zaD) (fun _ _ _ => rfl))
 zac))
 (zaa (zag (zae (sVar rfl nn_j) (sVar rfl nn_n) op_ge rfl) (zaa (zaE rfl (show VL _ "res" 3 from rfl) nn_add.1 nn_add.2 (zab rfl) rfl)
 zac) (zaa (zad rfl (nLoc rfl) (zaj (sVar rfl zcJ) (.yes (sVar rfl nn_i)) (.yes (sVar rfl nn_j))) (fun _ _ _ => rfl))
 (zaa (zag (zae (zab rfl) (sVar rfl zby) zhq rfl) (zaa (zad rfl (nLoc rfl) (zjn rfl rfl (by decide) (sVar rfl zby) (.cons (zab rfl) rfl (.cons (zab rfl) rfl .nil))) (fun _ _ _ => rfl))
 zac) (zaa (zaH rfl (nLoc rfl) (zap .nil) (fun _ _ _ => rfl))
 (zaa (zad rfl (nLoc rfl) (zcj (zae (zaf (sVar rfl zcJ) (sVar rfl nn_i)) (zab rfl) op_eq rfl) (zah (sVar rfl nn_i) (zab rfl) zaD) (zah (sVar rfl nn_i) (zab rfl) zaD)) (fun _ _ _ => rfl))
 (zaa (zbA (zab rfl) (zaa (zad rfl (nLoc rfl) (m_find rfl rfl (by decide) (sVar rfl zcJ) (.cons (zab rfl) rfl (.cons (sVar rfl nn_k) rfl (.cons (sVar rfl nn_j) rfl .nil)))) (fun _ _ _ => rfl))
 (zaa (zag (zae (sVar rfl nn_k) (zab rfl) op_lt rfl) (zaa zdw
 zac) zac)
 (zaa (zaM rfl nn_chunks.1 nn_chunks.2 rfl (zaj (sVar rfl zcJ) (.yes (sVar rfl nn_i)) (.yes (sVar rfl nn_k))) rfl)
 (zaa (zad rfl (nLoc rfl) (zah (sVar rfl nn_k) (zab rfl) zaD) (fun _ _ _ => rfl))
 (zaa (zad rfl (nLoc rfl) (zah (sVar rfl nn_k) (zab rfl) zaD) (fun _ _ _ => rfl))
 zac))))))
 (zaa (zad rfl (nLoc rfl) (zaj (sVar rfl zcJ) (.yes (sVar rfl nn_i)) (.yes (sVar rfl nn_j))) (fun _ _ _ => rfl))
 (zaa (zag (sVar rfl zhv) (zaa (zaM rfl nn_chunks.1 nn_chunks.2 rfl (sVar rfl zhv) rfl)
 zac) zaQ)
 (zaa (zaP rfl (nLoc rfl) (zaN rfl (zb0 N) (.cons (zah (zan rfl (b_len N) (by decide) rfl (.builtin _) rfl (.cons (sVar rfl nn_chunks) rfl .nil) zb3) (zab rfl) zec) rfl (.cons (zab rfl) rfl (.cons (zbR (zab rfl) zdC (fun h => nomatch h)) rfl .nil)))) (zaa (zag (zae (zaf (zaf (sVar rfl nn_chunks) (zah (sVar rfl nn_k) (zab rfl) zec)) (zbR (zab rfl) zdC (fun h => nomatch h))) (zaf (zaf (sVar rfl nn_chunks) (sVar rfl nn_k)) (zab rfl)) op_gt rfl) (zaa (zeB rfl nn_chunks.1 nn_chunks.2 (zah (sVar rfl nn_k) (zab rfl) zec) (zah (zaj (zaf (sVar rfl nn_chunks) (zah (sVar rfl nn_k) (zab rfl) zec)) .no (.yes (zbR (zab rfl) zdC (fun h => nomatch h)))) (zaj (zaf (sVar rfl nn_chunks) (sVar rfl nn_k)) (.yes (zab rfl)) .no) zaD) (fun _ => rfl))
 (zaa (zeD rfl nn_chunks.1 nn_chunks.2 (sVar rfl nn_k))
 zac)) zac)
 zac) (fun _ _ => rfl))
 (zaa (zbj ⟨os "chunks",rfl⟩ (zad rfl (nLoc rfl) (zfe G rfl rfl rfl rfl rfl rfl (by decide) (by decide) rfl (apart1 hq rfl) (zaC (sVar rfl nn_chunks)) (fun _ _ => rfl) rfl (by decide) (by decide) rfl rfl rfl rfl) (fun _ _ _ => rfl)))
 zac))))))))
 (zaa (zad rfl (nLoc rfl) (zfT G PG rfl tw rfl rfl (by rw [hq]; exact .head _) rfl rfl rfl (sVar rfl zby)) (fun _ _ _ => rfl))
 (zaa (zad rfl (nLoc rfl) (zah (sVar rfl nn_j) (zab rfl) zaD) (fun _ _ _ => rfl))
 (zaa (zag (zbi (sVar rfl zby)) (zaa (zaE rfl (show VL _ "res" 3 from rfl) nn_add.1 nn_add.2 (zab (by kernel_rfl)) rfl)
 zac) (zaa (zag (zae (sVar rfl zby) (zab rfl) op_eq rfl) (zaa (zaE rfl (show VL _ "res" 3 from rfl) nn_add.1 nn_add.2 (zab rfl) rfl)
 zac) (zaa (zag (zae (zaf (sVar rfl zby) (zab rfl)) (zab rfl) op_eq rfl) (zaa (zad rfl (nLoc rfl) (zah (zab rfl) (zaj (sVar rfl zby) (.yes (zab rfl)) .no) zaD) (fun _ _ _ => rfl))
 zac) (zaa (zag (zae (zaf (sVar rfl zby) (zab rfl)) (zar (.cons (zab rfl) rfl (.cons (zab rfl) rfl .nil))) op_in rfl) (zaa (zad rfl (nLoc rfl) (zah (zab rfl) (sVar rfl zby) zaD) (fun _ _ _ => rfl))
 zac) zac)
 zac))
 (zaa (zaE rfl (show VL _ "res" 3 from rfl) nn_add.1 nn_add.2 (ziL (sVar rfl zby) rfl rfl) rfl)
 zac)))
 zac))
 zac))))))
 zac))))) (zaa (zaE rfl (show VL _ "res" 3 from rfl) nn_add.1 nn_add.2 (zak rfl (zk6 N) rfl (.cons (sVar rfl nn_c) rfl .nil)) rfl)
 zac))
 zac))
 zac))
 zac))))
 (zaa (zff (zae (sVar rfl nn_i) (sVar rfl nn_n) op_eq rfl))
 (zaa (zbj ⟨os "res",rfl⟩ (zal (sVar rfl nn_res)))
 zac))))))
noncomputable def sc_fspath : Sc := { kinds := [(os "path",.local),(os "kind",.local),(os "hook",.local),(os "given",.local),(os "type",.globalImplicit),(os "issubclass",.globalImplicit),(os "str",.globalImplicit),(os "bytes",.globalImplicit),(os "_abc_plain_meta",.globalImplicit),(os "getattr",.globalImplicit),(os "TypeError",.globalImplicit),(os "_plain_name",.globalImplicit),(os "_wall",.globalImplicit),(os "len",.globalImplicit)],vars := [(os "path",0),(os "kind",1),(os "hook",2),(os "given",3)] }
theorem zhV {cx : XCx} (N : GN cx fs05 bs05) : SoundSs cx sc_fspath (nthBody PySem.Challenge.pw_dn0069_05 10) s_fspath := by
 unfold s_fspath
 exact (zaa (zad rfl (nLoc rfl) (zan rfl (b_type N) (by decide) rfl (.type _) rfl (.cons (sVar rfl nn_path) rfl .nil) op_tyOf) (fun _ _ _ => rfl))
 (zaa (zag (zan rfl (zgt N) (by decide) rfl (.builtin _) rfl (.cons (sVar rfl nn_kind) rfl (.cons (zar (.cons (zaY rfl (b_str N) (by decide) rfl rfl) rfl (.cons (zaY rfl (zer N) (by decide) rfl rfl) rfl .nil))) rfl .nil)) zkC) (zaa (zal (sVar rfl nn_path))
 zac) zac)
 zaQ))
noncomputable def sc_get_sep : Sc := { kinds := [(os "path",.local),(os "isinstance",.globalImplicit),(os "bytes",.globalImplicit)],vars := [(os "path",0)] }
theorem zgG {cx : XCx} (N : GN cx fs05 bs05) : SoundSs cx sc_get_sep (nthBody PySem.Challenge.pw_dn0069_05 14) s_get_sep := by
 unfold s_get_sep
 exact (zaa (zag (zan rfl (zbC N) (by decide) rfl (.builtin _) rfl (.cons (sVar rfl nn_path) rfl (.cons (zaY rfl (zer N) (by decide) rfl rfl) rfl .nil)) zck) zaQ (zaa (zal (zab rfl))
 zac))
 zac)
noncomputable def sc_join : Sc := { kinds := [(os "a",.local),(os "p",.local),(os "sep",.local),(os "path",.local),(os "b",.local),(os "fspath",.globalImplicit),(os "_get_sep",.globalImplicit),(os "TypeError",.globalImplicit),(os "AttributeError",.globalImplicit),(os "BytesWarning",.globalImplicit),(os "_check_arg_types",.globalImplicit)],vars := [(os "a",0),(os "p",1),(os "sep",2),(os "path",3),(os "b",4)] }
theorem zkn {cx : XCx} (N : GN cx fs05 bs05) : SoundSs cx sc_join (nthBody PySem.Challenge.pw_dn0069_05 15) s_join := by
 unfold s_join
 exact (zaa (zad rfl (nLoc rfl) (zak rfl (zca N) rfl (.cons (sVar rfl nn_a) rfl .nil)) (fun _ _ _ => rfl))
 (zaa (zad rfl (nLoc rfl) (zak rfl (zen N) rfl (.cons (sVar rfl nn_a) rfl .nil)) (fun _ _ _ => rfl))
 (zaa (zad rfl (nLoc rfl) (sVar rfl nn_a) (fun _ _ _ => rfl))
 (zaa (zdk (zaa (zaP rfl (nLoc rfl) (zaC (sVar rfl nn_p)) (zaa (zad rfl (nLoc rfl) (zak rfl (zca N) rfl (.cons (sVar rfl nn_b) rfl .nil)) (fun _ _ _ => rfl))
 (zaa (zag (zaq (.or (zdF rfl rfl (by decide) (sVar rfl nn_b) (.cons (sVar rfl zbs) rfl .nil)) (.one (zbi (sVar rfl nn_path))))) (zaa (zad rfl (nLoc rfl) (sVar rfl nn_b) (fun _ _ _ => rfl))
 zac) (zaa (zag (zh7 rfl rfl (by decide) (sVar rfl nn_path) (.cons (sVar rfl zbs) rfl .nil)) (zaa (zeV rfl (nLoc rfl) nn_path.1 (sVar rfl nn_b))
 zac) (zaa (zeV rfl (nLoc rfl) nn_path.1 (zah (sVar rfl zbs) (sVar rfl nn_b) zaD))
 zac))
 zac))
 zac)) (fun _ _ => rfl))
 zac))
 (zaa (zal (sVar rfl nn_path))
 zac)))))
noncomputable def sc_split : Sc := { kinds := [(os "p",.local),(os "sep",.local),(os "i",.local),(os "head",.local),(os "tail",.local),(os "fspath",.globalImplicit),(os "_get_sep",.globalImplicit),(os "len",.globalImplicit)],vars := [(os "p",0),(os "sep",1),(os "i",2),(os "head",3),(os "tail",4)] }
theorem ziM {cx : XCx} (N : GN cx fs05 bs05) : SoundSs cx sc_split (nthBody PySem.Challenge.pw_dn0069_05 16) s_split := by
 unfold s_split
 exact (zaa (zad rfl (nLoc rfl) (zak rfl (zca N) rfl (.cons (sVar rfl nn_p) rfl .nil)) (fun _ _ _ => rfl))
 (zaa (zad rfl (nLoc rfl) (zak rfl (zen N) rfl (.cons (sVar rfl nn_p) rfl .nil)) (fun _ _ _ => rfl))
 (zaa (zad rfl (nLoc rfl) (zah (zjm rfl rfl (by decide) (sVar rfl nn_p) (.cons (sVar rfl zbs) rfl .nil)) (zab rfl) zaD) (fun _ _ _ => rfl))
 (zaa (zdv rfl rfl (nLoc rfl) (nLoc rfl) (by decide) (zar (.cons (zaj (sVar rfl nn_p) .no (.yes (sVar rfl nn_i))) rfl (.cons (zaj (sVar rfl nn_p) (.yes (sVar rfl nn_i)) .no) rfl .nil))) (fun _ => rfl) (zhi rfl rfl rfl rfl rfl rfl rfl rfl))
 (zaa (zag (zaq (.and (sVar rfl zcS) (.one (zae (sVar rfl zcS) (zah (sVar rfl zbs) (zan rfl (b_len N) (by decide) rfl (.builtin _) rfl (.cons (sVar rfl zcS) rfl .nil) zb3) op_mul) op_ne rfl)))) (zaa (zad rfl (nLoc rfl) (zkU rfl rfl (by decide) (sVar rfl zcS) (.cons (sVar rfl zbs) rfl .nil)) (fun _ _ _ => rfl))
 zac) zac)
 (zaa (zal (zar (.cons (sVar rfl zcS) rfl (.cons (sVar rfl nn_tail) rfl .nil))))
 zac))))))
noncomputable def sc_splitroot : Sc := { kinds := [(os "p",.local),(os "sep",.local),(os "empty",.local),(os "fspath",.globalImplicit),(os "isinstance",.globalImplicit),(os "bytes",.globalImplicit)],vars := [(os "p",0),(os "sep",1),(os "empty",2)] }
theorem zfg {cx : XCx} (N : GN cx fs05 bs05) : SoundSs cx sc_splitroot (nthBody PySem.Challenge.pw_dn0069_05 17) s_splitroot := by
 unfold s_splitroot
 exact (zaa (zad rfl (nLoc rfl) (zak rfl (zca N) rfl (.cons (sVar rfl nn_p) rfl .nil)) (fun _ _ _ => rfl))
 (zaa (zag (zan rfl (zbC N) (by decide) rfl (.builtin _) rfl (.cons (sVar rfl nn_p) rfl (.cons (zaY rfl (zer N) (by decide) rfl rfl) rfl .nil)) zck) zaQ (zaa (zad rfl (nLoc rfl) (zab rfl) (fun _ _ _ => rfl))
 (zaa (zad rfl (nLoc rfl) (zab rfl) (fun _ _ _ => rfl))
 zac)))
 (zaa (zag (zae (zaj (sVar rfl nn_p) .no (.yes (zab rfl))) (sVar rfl zbs) op_ne rfl) (zaa (zal (zar (.cons (sVar rfl zdV) rfl (.cons (sVar rfl zdV) rfl (.cons (sVar rfl nn_p) rfl .nil)))))
 zac) (zaa (zag (zaq (.or (zae (zaj (sVar rfl nn_p) (.yes (zab rfl)) (.yes (zab rfl))) (sVar rfl zbs) op_ne rfl) (.one (zae (zaj (sVar rfl nn_p) (.yes (zab rfl)) (.yes (zab rfl))) (sVar rfl zbs) op_eq rfl)))) (zaa (zal (zar (.cons (sVar rfl zdV) rfl (.cons (sVar rfl zbs) rfl (.cons (zaj (sVar rfl nn_p) (.yes (zab rfl)) .no) rfl .nil)))))
 zac) (zaa (zal (zar (.cons (sVar rfl zdV) rfl (.cons (zaj (sVar rfl nn_p) .no (.yes (zab rfl))) rfl (.cons (zaj (sVar rfl nn_p) (.yes (zab rfl)) .no) rfl .nil)))))
 zac))
 zac))
 zac)))
noncomputable def sc_basename : Sc := { kinds := [(os "p",.local),(os "sep",.local),(os "i",.local),(os "fspath",.globalImplicit),(os "_get_sep",.globalImplicit)],vars := [(os "p",0),(os "sep",1),(os "i",2)] }
theorem zfX {cx : XCx} (N : GN cx fs05 bs05) : SoundSs cx sc_basename (nthBody PySem.Challenge.pw_dn0069_05 18) s_basename := by
 unfold s_basename
 exact (zaa (zad rfl (nLoc rfl) (zak rfl (zca N) rfl (.cons (sVar rfl nn_p) rfl .nil)) (fun _ _ _ => rfl))
 (zaa (zad rfl (nLoc rfl) (zak rfl (zen N) rfl (.cons (sVar rfl nn_p) rfl .nil)) (fun _ _ _ => rfl))
 (zaa (zad rfl (nLoc rfl) (zah (zjm rfl rfl (by decide) (sVar rfl nn_p) (.cons (sVar rfl zbs) rfl .nil)) (zab rfl) zaD) (fun _ _ _ => rfl))
 (zaa (zal (zaj (sVar rfl nn_p) (.yes (sVar rfl nn_i)) .no))
 zac))))
noncomputable def sc_normpath : Sc := { kinds := [(os "path",.local),(os "sep",.local),(os "dot",.local),(os "dotdot",.local),(os "_",.local),(os "initial_slashes",.local),(os "comps",.local),(os "new_comps",.local),(os "comp",.local),(os "fspath",.globalImplicit),(os "isinstance",.globalImplicit),(os "bytes",.globalImplicit),(os "splitroot",.globalImplicit)],vars := [(os "path",0),(os "sep",1),(os "dot",2),(os "dotdot",3),(os "_",4),(os "initial_slashes",5),(os "comps",6),(os "new_comps",7),(os "comp",8)] }
theorem zfV {cx : XCx} (N : GN cx fs05 bs05) : SoundSs cx sc_normpath (nthBody PySem.Challenge.pw_dn0069_05 19) s_normpath := by
 unfold s_normpath
 exact (zaa (zad rfl (nLoc rfl) (zak rfl (zca N) rfl (.cons (sVar rfl nn_path) rfl .nil)) (fun _ _ _ => rfl))
 (zaa (zag (zan rfl (zbC N) (by decide) rfl (.builtin _) rfl (.cons (sVar rfl nn_path) rfl (.cons (zaY rfl (zer N) (by decide) rfl rfl) rfl .nil)) zck) zaQ (zaa (zad rfl (nLoc rfl) (zab rfl) (fun _ _ _ => rfl))
 (zaa (zad rfl (nLoc rfl) (zab rfl) (fun _ _ _ => rfl))
 (zaa (zad rfl (nLoc rfl) (zab rfl) (fun _ _ _ => rfl))
 zac))))
 (zaa (zag (zbi (sVar rfl nn_path)) (zaa (zal (sVar rfl zjd))
 zac) zac)
 (zaa (zeE rfl rfl rfl (nLoc rfl) (nLoc rfl) (nLoc rfl) (zak rfl (zg1 N) rfl (.cons (sVar rfl nn_path) rfl .nil)) (fun _ => rfl) (fun _ => rfl))
 (zaa (zad rfl (nLoc rfl) (zft rfl rfl (by decide) (sVar rfl nn_path) (.cons (sVar rfl zbs) rfl .nil)) (fun _ _ _ => rfl))
 (zaa (zaH rfl (nLoc rfl) (zap .nil) (fun _ _ _ => rfl))
 (zaa (zaP rfl (nLoc rfl) (zaC (sVar rfl zhu)) (zaa (zag (zaq (.or (zbi (sVar rfl zfr)) (.one (zae (sVar rfl zfr) (sVar rfl zjd) op_eq rfl)))) (zaa zd6
 zac) zac)
 (zaa (zag (zaq (.or (zae (sVar rfl zfr) (sVar rfl zf0) op_ne rfl) (.or (zaq (.and (zbi (sVar rfl zbS)) (.one (zbi (sVar rfl nn_new_comps))))) (.one (zaq (.and (sVar rfl nn_new_comps) (.one (zae (zaf (sVar rfl nn_new_comps) (zbR (zab rfl) zdC (fun h => nomatch h))) (sVar rfl zf0) op_eq rfl)))))))) (zaa (zaM rfl nn_new_comps.1 nn_new_comps.2 rfl (sVar rfl zfr) rfl)
 zac) (zaa (zag (sVar rfl nn_new_comps) (zaa (zhU rfl nn_new_comps.1 nn_new_comps.2 rfl)
 zac) zac)
 zac))
 zac)) (fun _ _ => rfl))
 (zaa (zbj ⟨os "new_comps",rfl⟩ (zad rfl (nLoc rfl) (sVar rfl nn_new_comps) (fun _ _ _ => rfl)))
 (zaa (zad rfl (nLoc rfl) (zah (sVar rfl zbS) (zjo rfl rfl (by decide) (sVar rfl zbs) (.cons (sVar rfl zhu) rfl .nil)) zaD) (fun _ _ _ => rfl))
 (zaa (zal (zaq (.or (sVar rfl nn_path) (.one (sVar rfl zjd)))))
 zac))))))))))
noncomputable def sc_commonpath : Sc := { kinds := [(os "paths",.local),(os "sep",.cell),(os "curdir",.cell),(os "split_paths",.local),(os "isabs",.local),(os "c",.local),(os "s1",.local),(os "s2",.local),(os "common",.local),(os "i",.local),(os "prefix",.local),(os "tuple",.globalImplicit),(os "map",.globalImplicit),(os "fspath",.globalImplicit),(os "ValueError",.globalImplicit),(os "isinstance",.globalImplicit),(os "bytes",.globalImplicit),(os "min",.globalImplicit),(os "max",.globalImplicit),(os "enumerate",.globalImplicit),(os "TypeError",.globalImplicit),(os "AttributeError",.globalImplicit),(os "_check_arg_types",.globalImplicit)],vars := [(os "paths",0),(os "sep",1),(os "curdir",2),(os "split_paths",3),(os "isabs",4),(os "c",5),(os "s1",6),(os "s2",7),(os "common",8),(os "i",9),(os "prefix",10)] }
theorem zeH {cx : XCx} (N : GN cx fs05 bs05) : SoundSs cx sc_commonpath (nthBody PySem.Challenge.pw_dn0069_05 20) s_commonpath := by
 unfold s_commonpath
 exact (zaa (zad rfl (nLoc rfl) (zhT rfl (b_tuple N) rfl (b_map N) rfl (zca N) rfl (sVar rfl zc5) rfl) (fun _ _ _ => rfl))
 (zaa (zag (zbi (sVar rfl zc5)) zaQ zac)
 (zaa (zag (zan rfl (zbC N) (by decide) rfl (.builtin _) rfl (.cons (zaf (sVar rfl zc5) (zab rfl)) rfl (.cons (zaY rfl (zer N) (by decide) rfl rfl) rfl .nil)) zck) zaQ (zaa (zad rfl (nfree rfl) (zab rfl) (fun _ _ _ => rfl))
 (zaa (zad rfl (nfree rfl) (zab rfl) (fun _ _ _ => rfl))
 zac)))
 (zaa (zdk (zaa (zba ⟨zaG,zbV,(zaC (sVar rfl zc5)),za3 rfl,zbL,(zft rfl rfl (by decide) (sVar rfl nn_path) (.cons (sVar rfl zbs) rfl .nil)),fun _ _ => rfl⟩ rfl (nLoc rfl) (swapC rfl rfl rfl))
 (zaa (zdk (zaa (zdK rfl (nLoc rfl) ⟨zaG,zbV,(zaC (sVar rfl zc5)),za3 rfl,zbL,(zdF rfl rfl (by decide) (sVar rfl nn_p) (.cons (sVar rfl zbs) rfl .nil)),fun _ _ => rfl⟩ (fun _ => rfl))
 zac))
 (zaa (zba ⟨zaG,zbV,(zaC (sVar rfl zbW)),za3 rfl,zbL,(zcx ⟨zaG,zbV,(zaC (sVar rfl nn_s)),za3 rfl,(zc0 (zaq (.and (sVar rfl nn_c) (.one (zae (sVar rfl nn_c) (sVar rfl zje) op_ne rfl))))),(sVar rfl nn_c),fun _ _ => rfl⟩),fun _ _ => rfl⟩ rfl (nLoc rfl) (swapC rfl rfl rfl))
 (zaa (zad rfl (nLoc rfl) (zan rfl (b_min N) (by decide) rfl (.builtin _) rfl (.cons (sVar rfl zbW) rfl .nil) op_min) (fun _ _ _ => rfl))
 (zaa (zad rfl (nLoc rfl) (zan rfl (b_max N) (by decide) rfl (.builtin _) rfl (.cons (sVar rfl zbW) rfl .nil) op_max) (fun _ _ _ => rfl))
 (zaa (zad rfl (nLoc rfl) (sVar rfl nn_s1) (fun _ _ _ => rfl))
 (zaa (zeC rfl (zhd N) rfl rfl (nLoc rfl) (nLoc rfl) (sVar rfl nn_s1) rfl (zaa (zag (zae (sVar rfl nn_c) (zaf (sVar rfl nn_s2) (sVar rfl nn_i)) op_ne rfl) (zaa (zad rfl (nLoc rfl) (zaj (sVar rfl nn_s1) .no (.yes (sVar rfl nn_i))) (fun _ _ _ => rfl))
 (zaa zdw
 zac)) zac)
 zac) (fun _ _ => rfl))
 (zaa (zad rfl (nLoc rfl) (zcj (sVar rfl zkP) (sVar rfl zbs) (zaj (sVar rfl zbs) .no (.yes (zab rfl)))) (fun _ _ _ => rfl))
 (zaa (zal (zah (sVar rfl zjc) (zjo rfl rfl (by decide) (sVar rfl zbs) (.cons (sVar rfl zjf) rfl .nil)) zaD))
 zac))))))))))
 zac))))
noncomputable def sc_law_one : Sc := { kinds := [(os "part",.local),(os "sign",.local),(os "body",.local),(os "barred",.local),(os "k",.local),(os "found",.local),(os "low",.local),(os "high",.local),(os "len",.globalImplicit)],vars := [(os "part",0),(os "sign",1),(os "body",2),(os "barred",3),(os "k",4),(os "found",5),(os "low",6),(os "high",7)] }
theorem zgF {cx : XCx} (N : GN cx fs05 bs05) : SoundSs cx sc_law_one (nthBody PySem.Challenge.pw_dn0069_05 28) s_law_one := by
 unfold s_law_one
 exact (zaa (zag (zaq (.or (zae (sVar rfl zcm) (zab rfl) op_eq rfl) (.one (zae (sVar rfl zcm) (zab (by kernel_rfl)) op_eq rfl)))) (zaa (zal (zae (sVar rfl zcm) (zab rfl) op_eq rfl))
 zac) zac)
 (zaa (zag (zae (zaf (sVar rfl zcm) (zab rfl)) (zab rfl) op_ne rfl) (zaa (zal (zae (zaf (sVar rfl zcm) (zbR (zab rfl) zdC (fun h => nomatch h))) (sVar rfl zgR) op_eq rfl))
 zac) zac)
 (zaa (zad rfl (nLoc rfl) (zaj (sVar rfl zcm) (.yes (zab rfl)) (.yes (zbR (zab rfl) zdC (fun h => nomatch h)))) (fun _ _ _ => rfl))
 (zaa (zad rfl (nLoc rfl) (zae (zaf (sVar rfl zcn) (zab rfl)) (zab rfl) op_eq rfl) (fun _ _ _ => rfl))
 (zaa (zad rfl (nLoc rfl) (zcj (sVar rfl zf1) (zab rfl) (zab rfl)) (fun _ _ _ => rfl))
 (zaa (zad rfl (nLoc rfl) (zab rfl) (fun _ _ _ => rfl))
 (zaa (zbA (zae (sVar rfl nn_k) (zan rfl (b_len N) (by decide) rfl (.builtin _) rfl (.cons (sVar rfl zcn) rfl .nil) zb3) op_lt rfl) (zaa (zag (zae (zaf (sVar rfl zcn) (sVar rfl nn_k)) (zab rfl) op_eq rfl) (zaa (zad rfl (nLoc rfl) (zah (sVar rfl nn_k) (zab rfl) zaD) (fun _ _ _ => rfl))
 zac) zac)
 (zaa (zad rfl (nLoc rfl) (zaf (sVar rfl zcn) (sVar rfl nn_k)) (fun _ _ _ => rfl))
 (zaa (zad rfl (nLoc rfl) (sVar rfl zlu) (fun _ _ _ => rfl))
 (zaa (zad rfl (nLoc rfl) (zah (sVar rfl nn_k) (zab rfl) zaD) (fun _ _ _ => rfl))
 (zaa (zag (zaq (.and (zae (zah (sVar rfl nn_k) (zab rfl) zaD) (zan rfl (b_len N) (by decide) rfl (.builtin _) rfl (.cons (sVar rfl zcn) rfl .nil) zb3) op_lt rfl) (.one (zae (zaf (sVar rfl zcn) (sVar rfl nn_k)) (zab rfl) op_eq rfl)))) (zaa (zad rfl (nLoc rfl) (zah (sVar rfl nn_k) (zab rfl) zaD) (fun _ _ _ => rfl))
 (zaa (zag (zae (zaf (sVar rfl zcn) (sVar rfl nn_k)) (zab rfl) op_eq rfl) (zaa (zad rfl (nLoc rfl) (zah (sVar rfl nn_k) (zab rfl) zaD) (fun _ _ _ => rfl))
 zac) zac)
 (zaa (zad rfl (nLoc rfl) (zaf (sVar rfl zcn) (sVar rfl nn_k)) (fun _ _ _ => rfl))
 (zaa (zad rfl (nLoc rfl) (zah (sVar rfl nn_k) (zab rfl) zaD) (fun _ _ _ => rfl))
 zac)))) zac)
 (zaa (zag (zaq (.and (zae (sVar rfl zlu) (sVar rfl zgR) op_le rfl) (.one (zae (sVar rfl zgR) (sVar rfl nn_high) op_le rfl)))) (zaa (zad rfl (nLoc rfl) (zab rfl) (fun _ _ _ => rfl))
 zac) zac)
 zac)))))))
 (zaa (zal (zae (sVar rfl nn_found) (sVar rfl zf1) op_ne rfl))
 zac))))))))
noncomputable def sc_law_takes : Sc := { kinds := [(os "parts",.local),(os "star",.local),(os "name",.cell),(os "at",.local),(os "part",.cell),(os "list",.globalImplicit),(os "range",.globalImplicit),(os "len",.globalImplicit)],vars := [(os "parts",0),(os "star",1),(os "name",2),(os "at",3),(os "part",4)] }
theorem zfh {cx : XCx} (N : GN cx fs05 bs05) : SoundSs cx sc_law_takes (nthBody PySem.Challenge.pw_dn0069_05 29) s_law_takes := by
 unfold s_law_takes
 exact (zaa (zad rfl (nLoc rfl) (zap (.cons (zab rfl) rfl .nil)) (fun _ _ _ => rfl))
 (zaa (zaP rfl (nfree rfl) (zaC (sVar rfl zkN)) (zaa (zag (zae (sVar rfl zcm) (sVar rfl zcR) op_is rfl) (zaa (zad rfl (nLoc rfl) (zcj (sVar rfl nn_at) (zd5 rfl (b_list N) rfl (zb0 N) (.cons (zaf (sVar rfl nn_at) (zab rfl)) rfl (.cons (zah (zan rfl (b_len N) (by decide) rfl (.builtin _) rfl (.cons (sVar rfl zbM) rfl .nil) zb3) (zab rfl) zaD) rfl .nil))) (zap .nil)) (fun _ _ _ => rfl))
 zac) (zaa (zba ⟨zaG,zbV,(zaC (sVar rfl nn_at)),za3 rfl,(zc0 (zaq (.and (zae (sVar rfl nn_p) (zan rfl (b_len N) (by decide) rfl (.builtin _) rfl (.cons (sVar rfl zbM) rfl .nil) zb3) op_lt rfl) (.one (zak rfl (zjO N) rfl (.cons (sVar rfl zcm) rfl (.cons (zaf (sVar rfl zbM) (sVar rfl nn_p)) rfl .nil))))))),(zah (sVar rfl nn_p) (zab rfl) zaD),fun _ _ => rfl⟩ rfl (nLoc rfl) (swapC rfl rfl rfl))
 zac))
 zac) (fun _ _ => rfl))
 (zaa (zal (zae (zan rfl (b_len N) (by decide) rfl (.builtin _) rfl (.cons (sVar rfl zbM) rfl .nil) zb3) (sVar rfl nn_at) op_in rfl))
 zac)))
noncomputable def sc_law_means : Sc := { kinds := [(os "items",.cell),(os "name",.cell),(os "range",.globalImplicit),(os "len",.globalImplicit),(os "_law_means",.globalImplicit)],vars := [(os "items",0),(os "name",1)] }
theorem zfi {cx : XCx} (N : GN cx fs05 bs05) : SoundSs cx sc_law_means (nthBody PySem.Challenge.pw_dn0069_05 30) s_law_means := by
 unfold s_law_means
 exact (zaa (zag (zbi (sVar rfl zc6)) (zaa (zal (zae (sVar rfl zbM) (zab rfl) op_eq rfl))
 zac) zac)
 (zaa (zag (zae (zaf (sVar rfl zc6) (zab rfl)) (zab rfl) op_is rfl) (zaa (zal (zae (zcx ⟨zaG,zbV,(zaN rfl (zb0 N) (.cons (zah (zan rfl (b_len N) (by decide) rfl (.builtin _) rfl (.cons (sVar rfl zbM) rfl .nil) zb3) (zab rfl) zaD) rfl .nil)),za3 rfl,(zc0 (zak rfl (zcT N) rfl (.cons (zaj (sVar rfl zc6) (.yes (zab rfl)) .no) rfl (.cons (zaj (sVar rfl zbM) (.yes (sVar rfl nn_k)) .no) rfl .nil)))),(zab rfl),fun _ _ => rfl⟩) (zap .nil) op_ne rfl))
 zac) zac)
 (zaa (zal (zaq (.and (zae (sVar rfl zbM) (zab rfl) op_ne rfl) (.and (zae (zaf (sVar rfl zbM) (zab rfl)) (zaf (sVar rfl zc6) (zab rfl)) op_in rfl) (.one (zak rfl (zcT N) rfl (.cons (zaj (sVar rfl zc6) (.yes (zab rfl)) .no) rfl (.cons (zaj (sVar rfl zbM) (.yes (zab rfl)) .no) rfl .nil))))))))
 zac)))
noncomputable def sc_law_dressed : Sc := { kinds := [(os "code",.local),(os "pieces",.local)],vars := [(os "code",0),(os "pieces",1)] }
theorem zd7 {cx : XCx} (N : GN cx fs05 bs05) : SoundSs cx sc_law_dressed (nthBody PySem.Challenge.pw_dn0069_05 31) s_law_dressed := by
 unfold s_law_dressed
 refine zaa ?_ ?_
 ·refine zad ?_ ?_ ?_ ?_
  ·exact rfl
  ·exact (nLoc rfl)
  ·exact (zar (.cons (zar (.cons (zab rfl) rfl (.cons (zap (.cons (zab rfl) rfl .nil)) rfl .nil))) rfl (.cons (zar (.cons (zab rfl) rfl (.cons (zap (.cons (zab rfl) rfl .nil)) rfl .nil))) rfl (.cons (zar (.cons (zab rfl) rfl (.cons (zap (.cons (zab rfl) rfl (.cons (zab rfl) rfl .nil))) rfl .nil))) rfl (.cons (zar (.cons (zab rfl) rfl (.cons (zap (.cons (zab rfl) rfl .nil)) rfl .nil))) rfl (.cons (zar (.cons (zab (by kernel_rfl)) rfl (.cons (zap (.cons (zab rfl) rfl (.cons (zab rfl) rfl .nil))) rfl .nil))) rfl (.cons (zar (.cons (zab rfl) rfl (.cons (zap (.cons (zab rfl) rfl (.cons (zab rfl) rfl .nil))) rfl .nil))) rfl (.cons (zar (.cons (zab (by kernel_rfl)) rfl (.cons (zap (.cons (zab rfl) rfl (.cons (zab rfl) rfl .nil))) rfl .nil))) rfl (.cons (zar (.cons (zab rfl) rfl (.cons (zap (.cons (zab rfl) rfl (.cons (zab rfl) rfl .nil))) rfl .nil))) rfl (.cons (zar (.cons (zab (by kernel_rfl)) rfl (.cons (zap (.cons (zab rfl) rfl .nil)) rfl .nil))) rfl (.cons (zar (.cons (zab (by kernel_rfl)) rfl (.cons (zap (.cons (zab rfl) rfl (.cons (zab rfl) rfl .nil))) rfl .nil))) rfl (.cons (zar (.cons (zab rfl) rfl (.cons (zap (.cons (zab rfl) rfl .nil)) rfl .nil))) rfl (.cons (zar (.cons (zab (by kernel_rfl)) rfl (.cons (zap (.cons (zab rfl) rfl (.cons (zab rfl) rfl .nil))) rfl .nil))) rfl (.cons (zar (.cons (zab rfl) rfl (.cons (zap (.cons (zab rfl) rfl (.cons (zab rfl) rfl (.cons (zab rfl) rfl .nil)))) rfl .nil))) rfl .nil))))))))))))))
  ·exact (fun _ _ _ => by kernel_rfl)
 ·exact (zaa (zal (zaf (sVar rfl nn_pieces) (zah (sVar rfl zgS) (zab rfl) zfZ)))
 zac)
noncomputable def sc_law_tree : Sc := { kinds := [(os "sums",.local),(os "tree",.local),(os "k",.local),(os "left",.local),(os "path",.local),(os "step",.local),(os "range",.globalImplicit),(os "len",.globalImplicit),(os "abs",.globalImplicit),(os "join",.globalImplicit)],vars := [(os "sums",0),(os "tree",1),(os "k",2),(os "left",3),(os "path",4),(os "step",5)] }
theorem zfW {cx : XCx} (N : GN cx fs05 bs05) : SoundSs cx sc_law_tree (nthBody PySem.Challenge.pw_dn0069_05 32) s_law_tree := by
 unfold s_law_tree
 exact (zaa (zaH rfl (nLoc rfl) (zap (.cons (zab rfl) rfl .nil)) (fun _ _ _ => rfl))
 (zaa (zaP rfl (nLoc rfl) (zaN rfl (zb0 N) (.cons (zan rfl (b_len N) (by decide) rfl (.builtin _) rfl (.cons (sVar rfl zfp) rfl .nil) zb3) rfl .nil)) (zaa (zad rfl (nLoc rfl) (zah (zan rfl (b_abs N) (by decide) rfl (.builtin _) rfl (.cons (zaf (sVar rfl zfp) (sVar rfl nn_k)) rfl .nil) zln) (zaf (zar (.cons (zab rfl) rfl (.cons (zab rfl) rfl (.cons (zab rfl) rfl (.cons (zab rfl) rfl (.cons (zab rfl) rfl (.cons (zab rfl) rfl .nil))))))) (sVar rfl nn_k)) zaD) (fun _ _ _ => rfl))
 (zaa (zad rfl (nLoc rfl) (zab rfl) (fun _ _ _ => rfl))
 (zaa (zaP rfl (nLoc rfl) (zaN rfl (zb0 N) (.cons (zah (zab rfl) (zah (sVar rfl zdn) (zab rfl) zfZ) zaD) rfl .nil)) (zaa (zad rfl (nLoc rfl) (zah (sVar rfl zdn) (zab rfl) zlm) (fun _ _ _ => rfl))
 (zaa (zad rfl (nLoc rfl) (zak rfl (zjP N) rfl (.cons (sVar rfl nn_path) rfl (.cons (zaf (zar (.cons (zab rfl) rfl (.cons (zab rfl) rfl (.cons (zab rfl) rfl (.cons (zab rfl) rfl .nil))))) (zah (sVar rfl zdn) (zab rfl) zfZ)) rfl .nil))) (fun _ _ _ => rfl))
 (zaa (zag (zae (sVar rfl nn_path) (sVar rfl nn_tree) zhq rfl) (zaa (zaM rfl nn_tree.1 nn_tree.2 rfl (sVar rfl nn_path) rfl)
 zac) zac)
 zac))) (fun _ _ => rfl))
 zac))) (fun _ _ => rfl))
 (zaa (zbj ⟨os "tree",rfl⟩ (zal (sVar rfl nn_tree)))
 zac)))
noncomputable def sc_law_behind : Sc := { kinds := [(os "pattern",.local),(os "path",.local),(os "star",.local),(os "lists",.local),(os "head",.local),(os "tail",.local),(os "above",.local),(os "name",.local),(os "split",.globalImplicit),(os "_law_behind",.globalImplicit),(os "_translate",.globalImplicit),(os "_law_takes",.globalImplicit)],vars := [(os "pattern",0),(os "path",1),(os "star",2),(os "lists",3),(os "head",4),(os "tail",5),(os "above",6),(os "name",7)] }
theorem zeG {cx : XCx} (N : GN cx fs05 bs05) (CG : CacheG cx cp05) : SoundSs cx sc_law_behind (nthBody PySem.Challenge.pw_dn0069_05 33) s_law_behind := by
 unfold s_law_behind
 exact (zaa (zag (zae (sVar rfl zbK) (zab rfl) op_eq rfl) (zaa (zal (zae (sVar rfl nn_path) (zab rfl) op_eq rfl))
 zac) zac)
 (zaa (zcH rfl rfl (nLoc rfl) (nLoc rfl) (zak rfl (zjN N) rfl (.cons (sVar rfl zbK) rfl .nil)) (fun _ => rfl) (fun _ => rfl))
 (zaa (zcH rfl rfl (nLoc rfl) (nLoc rfl) (zak rfl (zjN N) rfl (.cons (sVar rfl nn_path) rfl .nil)) (fun _ => rfl) (fun _ => rfl))
 (zaa (zag (zae (sVar rfl nn_tail) (zab rfl) op_eq rfl) (zaa (zag (zak rfl (zbT N) rfl (.cons (sVar rfl zcS) rfl (.cons (sVar rfl nn_path) rfl (.cons (sVar rfl zcR) rfl (.cons (sVar rfl nn_lists) rfl .nil))))) (zaa (zal (zab rfl))
 zac) zac)
 (zaa (zal (zaq (.and (zae (sVar rfl nn_path) (zab rfl) op_ne rfl) (.one (zak rfl (zbT N) rfl (.cons (sVar rfl zbK) rfl (.cons (sVar rfl zhw) rfl (.cons (sVar rfl zcR) rfl (.cons (sVar rfl nn_lists) rfl .nil)))))))))
 zac)) zac)
 (zaa (zag (zae (sVar rfl nn_path) (zab rfl) op_eq rfl) (zaa (zal (zab rfl))
 zac) zac)
 (zky CG rfl (zg2 N) rfl rfl nn_lists.1 nn_lists.2 (zgX rfl nn_tail.1 nn_tail.2) (zgX rfl nn_tail.1 nn_tail.2) (zgX rfl nn_tail.1 nn_tail.2) (zak rfl (zg0 N) rfl (.cons (sVar rfl nn_tail) rfl (.cons (sVar rfl zcR) rfl (.cons (zab rfl) rfl .nil)))) (fun _ => rfl) rfl (.cons (sVar rfl zcR) rfl (.cons (sVar rfl zbM) rfl .nil)) (zak rfl (zbT N) rfl (.cons (sVar rfl zcS) rfl (.cons (sVar rfl zhw) rfl (.cons (sVar rfl zcR) rfl (.cons (sVar rfl nn_lists) rfl .nil)))))))))))
noncomputable def sc_law_front : Sc := { kinds := [(os "pieces",.local),(os "names",.local),(os "count",.local),(os "row",.local),(os "text",.local),(os "means",.local),(os "then",.local),(os "range",.globalImplicit),(os "len",.globalImplicit),(os "_law_means",.globalImplicit)],vars := [(os "pieces",0),(os "names",1),(os "count",2),(os "row",3),(os "text",4),(os "means",5),(os "then",6)] }
theorem zfj {cx : XCx} (N : GN cx fs05 bs05) : SoundSs cx sc_law_front (nthBody PySem.Challenge.pw_dn0069_05 34) s_law_front := by
 unfold s_law_front
 exact (zaa (zba ⟨zaG,zbV,(zaN rfl (zb0 N) (.cons (zah (zan rfl (b_len N) (by decide) rfl (.builtin _) rfl (.cons (sVar rfl zdU) rfl .nil) zb3) (zab rfl) zaD) rfl .nil)),za3 rfl,zbL,(zae (sVar rfl zaW) (zab rfl) op_eq rfl),fun _ _ => rfl⟩ rfl (nLoc rfl) (swapC rfl rfl rfl))
 (zaa (zgC rfl rfl (nLoc rfl) (nLoc rfl) (zaC (sVar rfl nn_pieces)) (zaa (zaH rfl (nLoc rfl) (zap .nil) (fun _ _ _ => rfl))
 (zaa (zaP rfl (nLoc rfl) (zaN rfl (zb0 N) (.cons (zah (zan rfl (b_len N) (by decide) rfl (.builtin _) rfl (.cons (sVar rfl zdU) rfl .nil) zb3) (zab rfl) zaD) rfl .nil)) (zaa (zag (zae (sVar rfl zi9) (zab rfl) op_eq rfl) (zaa (zaM rfl nn_then.1 nn_then.2 rfl (zaq (.or (zaf (sVar rfl zjb) (sVar rfl zaW)) (.one (zaq (.and (zae (sVar rfl zaW) (zab rfl) op_gt rfl) (.one (zaf (sVar rfl nn_then) (zah (sVar rfl zaW) (zab rfl) zec)))))))) rfl)
 zac) (zaa (zaM rfl nn_then.1 nn_then.2 rfl (zaq (.and (zae (sVar rfl zaW) (zab rfl) op_gt rfl) (.and (zaf (sVar rfl zjb) (zah (sVar rfl zaW) (zab rfl) zec)) (.one (zak rfl (zcT N) rfl (.cons (sVar rfl zkO) rfl (.cons (zaf (sVar rfl zdU) (zah (sVar rfl zaW) (zab rfl) zec)) rfl .nil))))))) rfl)
 zac))
 zac) (fun _ _ => rfl))
 (zaa (zbj ⟨os "then",rfl⟩ (zad rfl (nLoc rfl) (sVar rfl nn_then) (fun _ _ _ => rfl)))
 zac))) (fun _ _ => rfl))
 (zaa (zal (zaf (sVar rfl zjb) (zbR (zab rfl) zdC (fun h => nomatch h))))
 zac)))
noncomputable def sc_law : Sc := { kinds := [(os "script",.cell),(os "star",.local),(os "lists",.local),(os "k",.local),(os "sums",.local),(os "tree",.local),(os "path",.local),(os "left",.local),(os "pieces",.local),(os "step",.local),(os "code",.local),(os "pattern",.local),(os "found",.local),(os "names",.local),(os "taken",.local),(os "whole",.local),(os "some",.cell),(os "count",.cell),(os "range",.globalImplicit),(os "_law_tree",.globalImplicit),(os "normpath",.globalImplicit),(os "join",.globalImplicit),(os "basename",.globalImplicit),(os "_law_dressed",.globalImplicit),(os "_law_behind",.globalImplicit),(os "_law_front",.globalImplicit),(os "commonpath",.globalImplicit),(os "len",.globalImplicit)],vars := [(os "script",0),(os "star",1),(os "lists",2),(os "k",3),(os "sums",4),(os "tree",5),(os "path",6),(os "left",7),(os "pieces",8),(os "step",9),(os "code",10),(os "pattern",11),(os "found",12),(os "names",13),(os "taken",14),(os "whole",15),(os "some",16),(os "count",17)] }
theorem snd_law {cx : XCx} (N : GN cx fs05 bs05) : SoundSs cx sc_law ((nthBody PySem.Challenge.pw_dn0069_05 35).drop 2) s_law := by
 unfold s_law
 exact (zaa (zba ⟨zaG,zbV,(zaN rfl (zb0 N) (.cons (zab rfl) rfl .nil)),za3 rfl,zbL,(zan rfl (b_abs N) (by decide) rfl (.builtin _) rfl (.cons (zan rfl (b_sum N) (by decide) rfl (.builtin _) rfl (.cons (zfS (sVar rfl zja) (.yes (sVar rfl nn_k)) .no (zab rfl)) rfl .nil) op_sum) rfl .nil) zln),fun _ _ => rfl⟩ rfl (nLoc rfl) (swapC rfl rfl rfl))
 (zaa (zad rfl (nLoc rfl) (zak rfl (zij N) rfl (.cons (zaj (sVar rfl zfp) .no (.yes (zab rfl))) rfl .nil)) (fun _ _ _ => rfl))
 (zaa (zaP rfl (nLoc rfl) (zaC (zaj (sVar rfl nn_tree) (.yes (zab rfl)) .no)) (zaa (zag (zae (zak rfl (zii N) rfl (.cons (zak rfl (zjP N) rfl (.cons (sVar rfl nn_path) rfl (.cons (zab rfl) rfl (.cons (zak rfl (zik N) rfl (.cons (sVar rfl nn_path) rfl .nil)) rfl .nil)))) rfl .nil)) (sVar rfl nn_path) op_ne rfl) (zaa (zal (zab rfl))
 zac) zac)
 zac) (fun _ _ => rfl))
 (zaa (zaP rfl (nLoc rfl) (zaN rfl (zb0 N) (.cons (zab rfl) rfl .nil)) (zaa (zad rfl (nLoc rfl) (zah (zaf (sVar rfl zfp) (zah (zab rfl) (sVar rfl nn_k) zaD)) (zaf (zar (.cons (zab rfl) rfl (.cons (zab rfl) rfl (.cons (zab rfl) rfl (.cons (zab rfl) rfl (.cons (zab rfl) rfl .nil)))))) (sVar rfl nn_k)) zaD) (fun _ _ _ => rfl))
 (zaa (zaH rfl (nLoc rfl) (zap .nil) (fun _ _ _ => rfl))
 (zaa (zaP rfl (nLoc rfl) (zaN rfl (zb0 N) (.cons (zah (zab rfl) (zah (sVar rfl zdn) (zab rfl) zfZ) zaD) rfl .nil)) (zaa (zad rfl (nLoc rfl) (zah (sVar rfl zdn) (zab rfl) zlm) (fun _ _ _ => rfl))
 (zaa (zad rfl (nLoc rfl) (zah (sVar rfl zdn) (zab rfl) zfZ) (fun _ _ _ => rfl))
 (zaa (zaM rfl nn_pieces.1 nn_pieces.2 rfl (zcj (zae (sVar rfl zgS) (zab rfl) op_lt rfl) (zak rfl (zfA N) rfl (.cons (sVar rfl zgS) rfl .nil)) (zar (.cons (zab rfl) rfl (.cons (zab rfl) rfl .nil)))) rfl)
 zac))) (fun _ _ => rfl))
 (zaa (zbj ⟨os "pieces",rfl⟩ (zad rfl (nLoc rfl) (zak rfl (zjP N) rfl (.cons (zab rfl) rfl (.star (zgB ⟨zgx,two_len,(zaC (sVar rfl nn_pieces)),za3 rfl,zbL,(sVar rfl zi9),fun _ _ => rfl⟩)))) (fun _ _ _ => rfl)))
 (zaa (zaH rfl (nLoc rfl) (zap .nil) (fun _ _ _ => rfl))
 (zaa (zaP rfl (nLoc rfl) (zaC (zaj (sVar rfl nn_tree) (.yes (zab rfl)) .no)) (zaa (zad rfl (nLoc rfl) (zft rfl rfl (by decide) (sVar rfl nn_path) (.cons (zab rfl) rfl .nil)) (fun _ _ _ => rfl))
 (zaa (zad rfl (nLoc rfl) (zak rfl (zbT N) rfl (.cons (sVar rfl zbK) rfl (.cons (sVar rfl nn_path) rfl (.cons (sVar rfl zcR) rfl (.cons (sVar rfl nn_lists) rfl .nil))))) (fun _ _ _ => rfl))
 (zaa (zbj ⟨os "pieces",rfl⟩ (zag (zae (sVar rfl zht) (zak rfl (zg3 N) rfl (.cons (sVar rfl nn_pieces) rfl (.cons (sVar rfl zdU) rfl .nil))) op_ne rfl) (zaa (zal (zab rfl))
 zac) zac))
 (zaa (zag (sVar rfl zht) (zaa (zaM rfl nn_found.1 nn_found.2 rfl (sVar rfl nn_path) rfl)
 zac) zac)
 zac)))) (fun _ _ => rfl))
 (zaa (zag (sVar rfl nn_found) (zaa (zbj ⟨os "found",rfl⟩ (zad rfl (nLoc rfl) (zak rfl (zgd N) rfl (.cons (sVar rfl nn_found) rfl .nil)) (fun _ _ _ => rfl)))
 (zaa (zbj ⟨os "found",rfl⟩ (zad rfl (nfree rfl) (zcx ⟨zaG,zbV,(zaC (sVar rfl nn_found)),za3 rfl,zbL,(zft rfl rfl (by decide) (sVar rfl nn_path) (.cons (zab rfl) rfl .nil)),fun _ _ => rfl⟩) (zhP rfl)))
 (zaa (zad rfl (nfree rfl) (zab rfl) (fun _ _ _ => rfl))
 (zaa (zbA (zaq (.and (zae (sVar rfl zaW) (zan rfl (b_len N) (by decide) rfl (.builtin _) rfl (.cons (zaf (sVar rfl zfq) (zab rfl)) rfl .nil) zb3) op_lt rfl) (.one (zae (zcx ⟨zaG,zbV,(zaC (sVar rfl zfq)),za3 rfl,(zc0 (zae (zaj (sVar rfl zlt) (.yes (sVar rfl zaW)) (.yes (zah (sVar rfl zaW) (zab rfl) zaD))) (zaj (zaf (sVar rfl zfq) (zab rfl)) (.yes (sVar rfl zaW)) (.yes (zah (sVar rfl zaW) (zab rfl) zaD))) op_ne rfl)),(sVar rfl zlt),fun _ _ => rfl⟩) (zap .nil) op_eq rfl)))) (zaa (zad rfl (nfree rfl) (zah (sVar rfl zaW) (zab rfl) zaD) (fun _ _ _ => rfl))
 zac))
 (zaa (zag (zae (sVar rfl zkM) (zjo rfl rfl (by decide) (zab rfl) (.cons (zaj (zaf (sVar rfl zfq) (zab rfl)) .no (.yes (sVar rfl zaW))) rfl .nil)) op_ne rfl) (zaa (zal (zab rfl))
 zac) zac)
 zac))))) zac)
 zac))))))) (fun _ _ => rfl))
 (zaa (zal (zab rfl))
 zac)))))
end Mine
end W05x
section
open PySem
namespace Mine
noncomputable def fns05 : Nat → Option Fn := fun i => ([(0,fn_escape),(1,fn_translate5),(2,fn_fspath),(3,fn_get_sep),(4,fn_join),(5,fn_split),(7,fn_splitroot),(8,fn_basename),(9,fn_normpath),(13,fn_commonpath),(14,fn_law_one),(15,fn_law_takes),(16,fn_law_means),(17,fn_law_dressed),(28,fn_law_tree),(29,fn_law_behind),(30,fn_law_front)] : List (Nat × Fn)).lookup i
theorem dl05 : cp05.dom.length ≤ lim := by decide
noncomputable def cv05 (k : List Nat) : Option D := callF fns05 2 1 [.str k,.tok 0,.str cp05.qm]
noncomputable def ck05 (cf : CfT) : Prop := (cf 1 [.str [97],.tok 0,.str cp05.qm]).isSome → ∀ k d,k ∈ cp05.dom → cf 1 [.str k,.tok 0,.str cp05.qm] = some d → cv05 k = some d
theorem ck05_0 : ck05 (callF fns05 0) := fun h => nomatch h
theorem ck05_1 : ck05 (callF fns05 1) := fun h => by
 have e : callF fns05 1 1 [.str [97],.tok 0,.str cp05.qm] = none := by kernel_rfl
 rw [e] at h; injection h
theorem tab05 (m : Nat) : cp05.dom.map (fun k => callF fns05 (m + 2) 1 [.str k,.tok 0,.str cp05.qm]) = cp05.dom.map fun k => callF fns05 2 1 [.str k,.tok 0,.str cp05.qm] := by kernel_rfl
theorem hk05 : ∀ n,ck05 (callF fns05 n)
 | 0 => ck05_0
 | 1 => ck05_1
 | n + 2 => fun _ k d hk e => (List.map_inj_left.mp (tab05 n) k hk).symm.trans e
set_option genInjectivity false in
structure At (pat : List Nat) (p : Nat) (u : List Nat) : Prop where
 drop : pat.drop p = u
 le : p ≤ pat.length
 small : pat.length ≤ 100000
noncomputable def P (p k : Nat) : D := .int ((p + k : Nat) : Int)
noncomputable def N (pat : List Nat) : D := .int (pat.length : Int)
section
variable {pat u : List Nat} {p : Nat}
end
end Mine
end
section
open PySem PySem.StrLaws PySem.Builtin PySem.Builtin.Str
namespace Mine
theorem sub1 (a : List Nat) (c i hi : Nat) : (i + (⟨#[c]⟩ : PySem.Str).length ≤ hi ∧ subAt ⟨a.toArray⟩ ⟨#[c]⟩ i = true) ↔ (i < hi ∧ a[i]? = some c) := by
 rw [subAt_eq]
 show (i + 1 ≤ hi ∧ ((a.drop i).take 1 == [c]) = true) ↔ _
 rw [take1_drop]
 exact ⟨fun h => ⟨by omega,h.2⟩,fun h => ⟨by omega,h.2⟩⟩
theorem zgA (a : List Nat) (c : Nat) : Txt.startswith ⟨a.toArray⟩ ⟨[c].toArray⟩ = decide (a.head? = some c) := by
 unfold Txt.startswith
 have h := sub1 a c 0 a.length
 rw [Bool.eq_iff_iff,Bool.and_eq_true,decide_eq_true_eq,decide_eq_true_eq]
 rw [List.head?_eq_getElem?]
 refine h.trans ⟨fun x => x.2,fun x => ⟨?_,x⟩⟩
 rcases Nat.lt_or_ge 0 a.length with q | q
 ·exact q
 ·rw [List.getElem?_eq_none q] at x; injection x
theorem zj1 (a : List Nat) (c : Nat) : Txt.endswith ⟨a.toArray⟩ ⟨[c].toArray⟩ = decide (a.getLast? = some c) := by
 unfold Txt.endswith
 rw [Bool.eq_iff_iff,Bool.and_eq_true,decide_eq_true_eq,decide_eq_true_eq]
 have h := sub1 a c (a.length - 1) a.length
 show (0 + 1 ≤ a.length ∧ subAt ⟨a.toArray⟩ ⟨#[c]⟩ (a.length - 1) = true) ↔ _
 rw [List.getLast?_eq_getElem?]
 rcases Nat.lt_or_ge 0 a.length with q | q
 ·constructor
  ·rintro ⟨x,y⟩
   exact (h.mp ⟨by show a.length - 1 + 1 ≤ a.length; omega,y⟩).2
  ·intro x
   exact ⟨by omega,(h.mpr ⟨by omega,x⟩).2⟩
 ·constructor
  ·rintro ⟨x,y⟩; omega
  ·intro x
   rw [List.getElem?_eq_none (by omega)] at x; injection x
theorem zkr {a : List Nat} {c : Nat} (h : c ∉ a) : Txt.rfind ⟨a.toArray⟩ ⟨[c].toArray⟩ = -1 := by
 unfold Txt.rfind
 rcases last_spec ⟨a.toArray⟩ ⟨[c].toArray⟩ with ⟨e,_⟩ | ⟨i,e,hA,_⟩
 ·rw [e]
 ·exact absurd (List.mem_of_getElem? ((sub1 a c i a.length).mp hA).2) h
theorem zks {x y : List Nat} {c : Nat} (h : c ∉ y) : Txt.rfind ⟨(x ++ c :: y).toArray⟩ ⟨[c].toArray⟩ = (x.length : Int) := by
 unfold Txt.rfind
 have at' : ∀ i,StrLaws.At ⟨(x ++ c :: y).toArray⟩ ⟨[c].toArray⟩ (PySem.Str.mk (x ++ c :: y).toArray).length i ↔ (i < (x ++ c :: y).length ∧ (x ++ c :: y)[i]? = some c) := fun i => sub1 _ c i _
 rcases last_spec ⟨(x ++ c :: y).toArray⟩ ⟨[c].toArray⟩ with ⟨e,hn⟩ | ⟨i,e,hA,hn⟩
 ·exact absurd ((at' x.length).mpr ⟨by simp,by simp⟩) (hn _)
 ·rw [e]
  have h1 := ((at' i).mp hA).2
  have : i = x.length := by
   rcases Nat.lt_trichotomy i x.length with q | q | q
   ·exact absurd ((at' x.length).mpr ⟨by simp,by simp⟩) (hn _ q)
   ·exact q
   ·exfalso
    rw [List.getElem?_append_right (Nat.le_of_lt q)] at h1
    obtain ⟨k,hk⟩ : ∃ k,i - x.length = k + 1 := ⟨i - x.length - 1,(Nat.sub_add_cancel (Nat.sub_pos_of_lt q)).symm⟩
    rw [hk,List.getElem?_cons_succ] at h1
    exact h (List.mem_of_getElem? h1)
  rw [this]
theorem rstrip1 (a : List Nat) (c : Nat) : (Txt.rstripChars ⟨a.toArray⟩ ⟨[c].toArray⟩).cps.toList = (a.reverse.dropWhile fun x => x == c).reverse := by
 unfold Txt.rstripChars Txt.stripBy
 have hg : ∀ x : Nat,([c].toArray).contains x = (x == c) := fun x => by
  by_cases h : x = c
  ·subst h; simp
  ·rw [beq_eq_false_iff_ne.mpr h]; simpa using h
 have hlo : stripLo ([c].toArray).contains false ⟨a.toArray⟩ = 0 := rfl
 have key : (strSub ⟨a.toArray⟩ 0 (stripHi ([c].toArray).contains true ⟨a.toArray⟩ 0)).cps.toList = (a.reverse.dropWhile fun x => x == c).reverse := by
  rw [strSub_toList]
  unfold stripHi
  simp only [if_true,List.drop_zero,Nat.sub_zero]
  show a.take (a.length - (a.reverse.takeWhile ([c].toArray).contains).length) = _
  have e : ([c].toArray).contains = fun x => x == c := funext hg
  rw [e]
  have h1 := List.takeWhile_append_dropWhile (p := fun x => x == c) (l := a.reverse)
  have h2 : a = (a.reverse.dropWhile fun x => x == c).reverse ++ (a.reverse.takeWhile fun x => x == c).reverse := by
   rw [← List.reverse_append,h1,List.reverse_reverse]
  have h3 : a.length - (a.reverse.takeWhile fun x => x == c).length = (a.reverse.dropWhile fun x => x == c).reverse.length := by
   have := congrArg List.length h2
   rw [List.length_append,List.length_reverse,List.length_reverse] at this
   rw [List.length_reverse]
   omega
  rw [h3]
  have h4 : ∀ u v : List Nat,a = u ++ v → a.take u.length = u := fun u v e => by rw [e,List.take_left' rfl]
  exact h4 _ _ h2
 show (if stripSame ([c].toArray).contains false true ⟨a.toArray⟩ = true then (PySem.Str.mk a.toArray) else stripped ([c].toArray).contains false true ⟨a.toArray⟩).cps.toList = _
 split
 ·rename_i hs
  rw [← key]
  unfold stripSame at hs
  rw [hlo] at hs
  simp only [Bool.and_eq_true,beq_iff_eq] at hs
  rw [hs.2,strSub_toList]
  show a = (a.drop 0).take (a.length - 0)
  simp
 ·exact key
section
variable {pat u : List Nat} {p : Nat}
end
noncomputable abbrev Res := Option (List Slot × Out)
section
variable {cf : CfT} {ρ ρ₁ ρ' : List Slot} {o : Out} {res : Res} {a b : S} {x c : X} {d : D} {i j k : Nat}
theorem zax : ex cf .skip ρ = some (ρ,.next) := zhD _
theorem R_brk : ex cf .brk ρ = some (ρ,.brk) := zjS _
noncomputable def after (cf : CfT) (b : S) (ρ : List Slot) : Out → Res
 | .next => ex cf b ρ
 | o => some (ρ,o)
theorem R_seq (h : ex cf a ρ = some (ρ₁,o)) (h2 : after cf b ρ₁ o = res) : ex cf (.seq a b) ρ = res := by
 rw [zjV,h]
 cases o <;> exact h2
theorem zai (h : ex cf b ρ = res) : after cf b ρ .next = res := h
theorem zbr : after cf b ρ .brk = some (ρ,.brk) := rfl
theorem zbw : after cf b ρ .cont = some (ρ,.cont) := rfl
theorem zau : after cf b ρ (.ret d) = some (ρ,.ret d) := rfl
theorem zam (h : ev1 cf x ρ = some d) (h2 : ρ.set i (.val d) = ρ') : ex cf (.assign i x) ρ = some (ρ',.next) := by
 rw [zcD]; rw [h, ← h2]; rfl
theorem za4 (h0 : noApp i ρ = true) {l : List D} (h : ev cf x ρ = some [.own l]) (h2 : ρ.set i (.own l) = ρ') (hd : dSlot i = false := by rfl) : ex cf (.assignO i x) ρ = some (ρ',.next) := by
 rw [zcU]; rw [if_pos h0,h, ← h2]; exact if_neg (by rw [hd]; exact Bool.false_ne_true)
theorem za5 {d1 d2 : D} (h : ev1 cf x ρ = some (.tup [d1,d2])) (h2 : (ρ.set i (.val d1)).set j (.val d2) = ρ') : ex cf (.assign2 i j x) ρ = some (ρ',.next) := by
 rw [zcV]; rw [h, ← h2]
theorem zbc {l : List D} (h : ev1 cf x ρ = some d) (h1 : ownAt ρ i = some l) (hl : l.length < lim) (h2 : ρ.set i (.own (l ++ [d])) = ρ') : ex cf (.append i x) ρ = some (ρ',.next) := by
 rw [ze2]; rw [h,h1]; simp only [if_pos hl,h2]
theorem R_aug {s t : List Nat} (h0 : ρ[i]? = some (.val (.str s))) (h : ev1 cf x ρ = some (.str t)) (hl : s.length + t.length ≤ lim) (h2 : ρ.set i (.val (.str (s ++ t))) = ρ') : ex cf (.aug i x) ρ = some (ρ',.next) := by
 rw [zjT]; rw [h0,h]; simp only [if_pos hl,h2]
theorem R_fz {l : List D} (h : ownAt ρ i = some l) (h2 : ρ.set i (.val (.list l)) = ρ') : ex cf (.fz i) ρ = some (ρ',.next) := by rw [ex_fz,h, ← h2]
theorem zkg (h : ownAt ρ i = none) : ex cf (.fz i) ρ = some (ρ,.next) := by rw [ex_fz,h]
noncomputable def branch (cf : CfT) (a b : S) (ρ : List Slot) : Bool → Res
 | true => ex cf a ρ
 | false => ex cf b ρ
theorem R_ite {t : Bool} (h : evT cf c ρ = some t) (h2 : branch cf a b ρ t = res) : ex cf (.ite c a b) ρ = res := by
 rw [zjR]; rw [h]; cases t <;> exact h2
theorem R_tt (h : ex cf a ρ = res) : branch cf a b ρ true = res := h
theorem R_ff (h : ex cf b ρ = res) : branch cf a b ρ false = res := h
theorem R_ret (h : ev1 cf x ρ = some d) : ex cf (.ret x) ρ = some (ρ,.ret d) := by rw [zg6]; rw [h]; rfl
theorem R_try (h : ex cf b ρ = res) : ex cf (.try_ b) ρ = res := by rw [zhC]; exact h
noncomputable def wOut (cf : CfT) (c : X) (b : S) (n : Nat) (ρ : List Slot) : Out → Res
 | .next => whileGo (evT cf c) (ex cf b) n ρ
 | .cont => whileGo (evT cf c) (ex cf b) n ρ
 | .brk => some (ρ,.next)
 | .ret d => some (ρ,.ret d)
noncomputable def wTurn (cf : CfT) (c : X) (b : S) (n : Nat) (ρ : List Slot) : Bool → Res
 | false => some (ρ,.next)
 | true => match ex cf b ρ with
  | some (ρ',o) => wOut cf c b n ρ' o
  | none => none
theorem zbq {n : Nat} {t : Bool} (h : evT cf c ρ = some t) (h2 : wTurn cf c b n ρ t = res) : whileGo (evT cf c) (ex cf b) (n + 1) ρ = res := by
 unfold whileGo
 rw [h]
 cases t with
 | false => exact h2
 | true =>
  unfold wTurn at h2
  rw [← h2]
  simp only
  cases ex cf b ρ with
  | none => rfl
  | some y =>
   obtain ⟨ρ',o⟩ := y
   cases o <;> rfl
theorem zcs (h : whileGo (evT cf c) (ex cf b) (99999 + 1) ρ = res) : ex cf (.while c b) ρ = res := by rw [zge]; exact h
theorem zcu {n : Nat} : wTurn cf c b n ρ false = some (ρ,.next) := rfl
theorem R_wGo {n : Nat} (h : ex cf b ρ = some (ρ₁,o)) (h2 : wOut cf c b n ρ₁ o = res) : wTurn cf c b n ρ true = res := by
 unfold wTurn; rw [h]; exact h2
theorem zct {n : Nat} (h : whileGo (evT cf c) (ex cf b) n ρ = res) : wOut cf c b n ρ .next = res := h
theorem zew {n : Nat} : wOut cf c b n ρ .brk = some (ρ,.next) := rfl
theorem zev {n : Nat} : wOut cf c b n ρ (.ret d) = some (ρ,.ret d) := rfl
noncomputable def fOut (cf : CfT) (st : D → List Slot → Option (List Slot)) (b : S) (r : List D) (ρ : List Slot) : Out → Res
 | .next => forGo st (ex cf b) r ρ
 | .cont => forGo st (ex cf b) r ρ
 | .brk => some (ρ,.next)
 | .ret d => some (ρ,.ret d)
theorem zcd {st : D → List Slot → Option (List Slot)} : forGo st (ex cf b) [] ρ = some (ρ,.next) := rfl
theorem zaO {st : D → List Slot → Option (List Slot)} {r : List D} {ρ₂ : List Slot} (h1 : st d ρ = some ρ₁) (h : ex cf b ρ₁ = some (ρ₂,o)) (h2 : fOut cf st b r ρ₂ o = res) : forGo st (ex cf b) (d :: r) ρ = res := by
 unfold forGo
 rw [h1]
 simp only [h]
 cases o <;> exact h2
theorem zbx {st : D → List Slot → Option (List Slot)} {r : List D} (h : forGo st (ex cf b) r ρ = res) : fOut cf st b r ρ .next = res := h
theorem zcv {st : D → List Slot → Option (List Slot)} {r : List D} (h : forGo st (ex cf b) r ρ = res) : fOut cf st b r ρ .cont = res := h
theorem zdJ {st : D → List Slot → Option (List Slot)} {r : List D} : fOut cf st b r ρ .brk = some (ρ,.next) := rfl
theorem zex {st : D → List Slot → Option (List Slot)} {r : List D} : fOut cf st b r ρ (.ret d) = some (ρ,.ret d) := rfl
theorem R_for {l : List D} (h : evI cf x ρ = some l) (h2 : forGo (put1 i) (ex cf b) l ρ = res) : ex cf (.forE i x b) ρ = res := by rw [zhE]; rw [h]; exact h2
theorem zlD {l : List D} (h : evI cf x ρ = some l) (h2 : forGo (put2 i j) (ex cf b) l ρ = res) : ex cf (.forE2 i j x b) ρ = res := by rw [zeo]; rw [h]; exact h2
theorem zgM {d1 d2 : D} : put2 i j (.tup [d1,d2]) ρ = some ((ρ.set i (.val d1)).set j (.val d2)) := rfl
end
noncomputable def one (o : Option (List R)) : Option D := match o with
 | some [r] => r.fz
 | _ => none
noncomputable def theItems (o : Option (List R)) : Option (List D) := match o with
 | some [.val (.list l)] => some l
 | _ => none
section
variable {cf : CfT} {ρ : List Slot} {x : X} {r : R}
theorem zcL : ev1 cf x ρ = one (ev cf x ρ) := by
 unfold ev1
 generalize ev cf x ρ = o
 match o with
 | none => rfl
 | some [] => rfl
 | some [_] => rfl
 | some (_ :: _ :: _) => rfl
theorem zcK : evT cf x ρ = truthR (ev cf x ρ) := by
 unfold evT
 generalize ev cf x ρ = o
 match o with
 | none => rfl
 | some _ => rfl
theorem zdI : evI cf x ρ = theItems (ev cf x ρ) := by
 unfold evI
 generalize ev cf x ρ = o
 match o with
 | none => rfl
 | some [] => rfl
 | some [.val (.list _)] => rfl
 | some [.val .none] => rfl
 | some [.val (.bool _)] => rfl
 | some [.val (.int _)] => rfl
 | some [.val (.str _)] => rfl
 | some [.val (.tup _)] => rfl
 | some [.val (.tok _)] => rfl
 | some [.val (.ty _)] => rfl
 | some [.own _] => rfl
 | some [.bor _] => rfl
 | some (_ :: _ :: _) => rfl
theorem zbG : one (some [r]) = r.fz := rfl
theorem zaT {l : List D} : theItems (some [.val (.list l)]) = some l := rfl
theorem zbd : truthR (some [r]) = r.ds.truth := rfl
end
theorem dS3 {α : Type} {x y : α} : (if dSlot 3 = true then x else y) = y := rfl
theorem dS10 {α : Type} {x y : α} : (if dSlot 10 = true then x else y) = y := rfl
noncomputable def appOK (i : Nat) (s : Slot) : Bool := match s with | .app j => j != i | _ => true
theorem zbH (i : Nat) (ρ : List Slot) : noApp i ρ = ρ.all (appOK i) := rfl
theorem zbD {i : Nat} {d : D} : appOK i (.val d) = true := rfl
theorem zbP {i : Nat} {d : List D} : appOK i (.own d) = true := rfl
theorem zaU {i : Nat} : appOK i .unset = true := rfl
theorem zbQ {i j : Nat} : appOK i (.app j) = (j != i) := rfl
theorem eq_str (a b : List Nat) : opF .eq [.str a,.str b] = some (.val (.bool (decide (a = b)))) := rfl
theorem ne_str (a b : List Nat) : opF .ne [.str a,.str b] = some (.val (.bool (!decide (a = b)))) := rfl
theorem zb6 {r : R} : turnD (some [.val (.bool true)]) (some [r]) = r.fz.map some := rfl
theorem o_len {l : List D} : opF .len [.list l] = some (.val (.int (l.length : Int))) := rfl
theorem o_sub {a b : Int} : opF .sub [.int a,.int b] = some (.val (.int (a - b))) := rfl
theorem o_neg {a : Int} : opF .neg [.int a] = some (.val (.int (-a))) := rfl
section
variable {pat u : List Nat} {p : Nat}
end
section
variable {pat v : List Nat} {I : Nat → D} {n : D} {ρ : List Slot} {cf : CfT} {q : D} {r : List D} {j7 j8 j9 j10 j11 j12 j13 : Slot}
theorem o_last {r : List D} {d : D} : opF .index [.list (r ++ [d]),.int (-1)] = some (.val d) := by
 show (if small (-1) = true then (match place (-1) (r ++ [d]).length with | some k => ((r ++ [d])[k]?).map R.val | none => none) else none) = _
 rw [if_pos (by decide)]
 unfold place
 rw [if_neg (by decide),if_pos (by simp; omega)]
 have e : (-1 + ((r ++ [d]).length : Int)).toNat = r.length := by simp; omega
 simp only [e]
 simp
end
theorem zdh {fns : Nat → Option Fn} {n f : Nat} {args : List D} {fn : Fn} {ρ : List Slot} {d : D} (h1 : fns f = some fn) (h2 : bindD fn args = some ρ) (h3 : ∃ ρ',ex (callF fns n) fn.body ρ = some (ρ',.ret d)) : callF fns (n + 1) f args = some d := by
 obtain ⟨ρ',h3⟩ := h3
 unfold callF
 rw [h1]
 simp only [h2,h3]
theorem zaR {a : List Nat} {c : Nat} : opF .startswith [.str a,.str [c]] = some (.val (.bool (decide (a.head? = some c)))) := by
 show some (R.val (.bool (Txt.startswith ⟨a.toArray⟩ ⟨[c].toArray⟩))) = _
 rw [zgA]
theorem zbt {a : List Nat} {c : Nat} : opF .endswith [.str a,.str [c]] = some (.val (.bool (decide (a.getLast? = some c)))) := by
 show some (R.val (.bool (Txt.endswith ⟨a.toArray⟩ ⟨[c].toArray⟩))) = _
 rw [zj1]
theorem zfo {a b : List Nat} (h : a.length + b.length ≤ lim) : opF .add [.str a,.str b] = some (.val (.str (a ++ b))) := by
 show (if a.length + b.length ≤ lim then some (R.val (.str (a ++ b))) else none) = _
 rw [if_pos h]
theorem zek {n : Nat} (h : n ≤ 1000) : (n ≤ lim) = True := eq_true (Nat.le_trans h (by decide))
theorem zed {l : List Nat} : opF .len [.str l] = some (.val (.int (l.length : Int))) := rfl
theorem zef {a b : Int} : opF .add [.int a,.int b] = some (.val (.int (a + b))) := rfl
section
variable {fns : Nat → Option Fn}
theorem zdd (h2 : fns 2 = some fn_fspath) (m : Nat) (l : List Nat) : callF fns (m + 1) 2 [.str l] = some (.str l) := by
 refine zdh h2 (ρ := [.val (.str l),.unset,.unset,.unset]) rfl ?_
 show ∃ ρ',ex (callF fns m) s_fspath _ = _
 unfold s_fspath
 exact ⟨_,R_seq (zam (d := .ty "str") rfl rfl) (zai (R_seq (R_ite (t := true) rfl (R_tt (R_seq (R_ret (d := .str l) rfl) zau))) zau))⟩
theorem zeZ (h3 : fns 3 = some fn_get_sep) (m : Nat) (l : List Nat) : callF fns (m + 1) 3 [.str l] = some (.str [47]) := by
 refine zdh h3 (ρ := [.val (.str l)]) rfl ?_
 show ∃ ρ',ex (callF fns m) s_get_sep _ = _
 unfold s_get_sep
 exact ⟨_,R_seq (R_ite (t := false) rfl (R_ff (R_seq (R_ret (d := .str [47]) rfl) zau))) zau⟩
end
noncomputable def join1 (p b : List Nat) : List Nat :=
 if b.head? = some 47 ∨ p = [] then b else if p.getLast? = some 47 then p ++ b else p ++ 47 :: b
noncomputable def joinP (p : List Nat) (bs : List (List Nat)) : List Nat := bs.foldl join1 p
noncomputable def jBody : S := match s_join with
 | .seq _ (.seq _ (.seq _ (.seq (.try_ (.seq (.forE _ _ b) _)) _))) => b
 | _ => .skip
section
variable {cf : CfT}
theorem zjw (hf : ∀ l,cf 2 [.str l] = some (.str l)) {p b : List Nat} {a' ps : D} (hl : p.length + b.length + 1 ≤ lim) :
  ex cf jBody [.val a',.val ps,.val (.str [47]),.val (.str p),.val (.str b)] = some ([.val a',.val ps,.val (.str [47]),.val (.str (join1 p b)),.val (.str b)],.next) := by
 have hb := hf b
 have l1 : p.length + b.length ≤ lim := by omega
 have l2 : p.length + ([47] ++ b).length ≤ lim := by simp; omega
 have l3 := zfo (a := [47]) (b := b) (by simp; omega)
 unfold jBody s_join join1
 by_cases h1 : b.head? = some 47
 ·simp only [h1,true_or,if_true]
  (repeat' (first | with_reducible (first | exact zax | exact R_brk | apply R_seq | exact zbr | exact zbw | exact zau | refine zai ?_ | apply R_ite | refine R_tt ?_ | refine R_ff ?_ | apply zcs | apply zbq | exact zcu | apply R_wGo | refine zct ?_ | exact zew | exact zev | apply R_for | exact zcd | apply zaO | refine zbx ?_ | refine zcv ?_ | exact zdJ | exact zex | apply zam | apply za5 | apply zbc | apply R_ret | apply za4 | apply R_fz | apply R_aug) | (((try simp (config := {failIfUnchanged := false}) only [zcL,zcK,zdI,zbG,zaT,zbd,zaF,zbu,zcp,zbZ,zaX,zbk,zbf,zcf,zbE,zbv,za8,zbY,zbz,zbp,za1,zbo,zbn,zbm,zaJ,zbb,zbl,fzAll,ownAt,dS3,dS10,Mine.R.ds,Mine.R.fz,Mine.D.truth,List.map_cons,List.map_nil,List.getElem?_cons_zero,List.getElem?_cons_succ,List.getElem?_nil,Option.map_some,Option.map_none,List.set_cons_zero,List.set_cons_succ,List.getElem?_set,List.length_set,Nat.reduceLT,eq_str,ne_str,List.cons.injEq,and_true,and_false,true_and,false_and,Nat.reduceEqDiff,decide_true,decide_false,reduceCtorEq,Bool.not_true,Bool.not_false,Nat.reduceAdd,List.isEmpty_cons,List.isEmpty_nil,Nat.reduceLeDiff,Nat.zero_le,Option.isSome_some,Option.isSome_none,zbH,List.all_cons,List.all_nil,zbD,zbP,zaU,zbQ,Bool.and_true,Bool.true_and,reduceIte,List.mem_cons,List.not_mem_nil,or_false,false_or,or_true,true_or,itemsOf,Option.bind_some,compGo,zb6,o_len,zed,o_sub,o_neg,zef,zaR,zbt,zek,List.length_cons,List.length_nil,Nat.zero_add, *]) <;> rfl)) | (show (_ : Nat) < lim; decide) | decide))
 ·by_cases h2 : p = []
  ·subst h2
   simp only [h1,or_true,if_true]
   (repeat' (first | with_reducible (first | exact zax | exact R_brk | apply R_seq | exact zbr | exact zbw | exact zau | refine zai ?_ | apply R_ite | refine R_tt ?_ | refine R_ff ?_ | apply zcs | apply zbq | exact zcu | apply R_wGo | refine zct ?_ | exact zew | exact zev | apply R_for | exact zcd | apply zaO | refine zbx ?_ | refine zcv ?_ | exact zdJ | exact zex | apply zam | apply za5 | apply zbc | apply R_ret | apply za4 | apply R_fz | apply R_aug) | (((try simp (config := {failIfUnchanged := false}) only [zcL,zcK,zdI,zbG,zaT,zbd,zaF,zbu,zcp,zbZ,zaX,zbk,zbf,zcf,zbE,zbv,za8,zbY,zbz,zbp,za1,zbo,zbn,zbm,zaJ,zbb,zbl,fzAll,ownAt,dS3,dS10,Mine.R.ds,Mine.R.fz,Mine.D.truth,List.map_cons,List.map_nil,List.getElem?_cons_zero,List.getElem?_cons_succ,List.getElem?_nil,Option.map_some,Option.map_none,List.set_cons_zero,List.set_cons_succ,List.getElem?_set,List.length_set,Nat.reduceLT,eq_str,ne_str,List.cons.injEq,and_true,and_false,true_and,false_and,Nat.reduceEqDiff,decide_true,decide_false,reduceCtorEq,Bool.not_true,Bool.not_false,Nat.reduceAdd,List.isEmpty_cons,List.isEmpty_nil,Nat.reduceLeDiff,Nat.zero_le,Option.isSome_some,Option.isSome_none,zbH,List.all_cons,List.all_nil,zbD,zbP,zaU,zbQ,Bool.and_true,Bool.true_and,reduceIte,List.mem_cons,List.not_mem_nil,or_false,false_or,or_true,true_or,itemsOf,Option.bind_some,compGo,zb6,o_len,zed,o_sub,o_neg,zef,zaR,zbt,zek,List.length_cons,List.length_nil,Nat.zero_add, *]) <;> rfl)) | (show (_ : Nat) < lim; decide) | decide))
  ·have h2' : p.isEmpty = false := by cases p <;> first | rfl | exact absurd rfl h2
   by_cases h3 : p.getLast? = some 47
   ·simp only [h1,h2,or_self,if_false,h3,if_true]
    (repeat' (first | with_reducible (first | exact zax | exact R_brk | apply R_seq | exact zbr | exact zbw | exact zau | refine zai ?_ | apply R_ite | refine R_tt ?_ | refine R_ff ?_ | apply zcs | apply zbq | exact zcu | apply R_wGo | refine zct ?_ | exact zew | exact zev | apply R_for | exact zcd | apply zaO | refine zbx ?_ | refine zcv ?_ | exact zdJ | exact zex | apply zam | apply za5 | apply zbc | apply R_ret | apply za4 | apply R_fz | apply R_aug) | (((try simp (config := {failIfUnchanged := false}) only [zcL,zcK,zdI,zbG,zaT,zbd,zaF,zbu,zcp,zbZ,zaX,zbk,zbf,zcf,zbE,zbv,za8,zbY,zbz,zbp,za1,zbo,zbn,zbm,zaJ,zbb,zbl,fzAll,ownAt,dS3,dS10,Mine.R.ds,Mine.R.fz,Mine.D.truth,List.map_cons,List.map_nil,List.getElem?_cons_zero,List.getElem?_cons_succ,List.getElem?_nil,Option.map_some,Option.map_none,List.set_cons_zero,List.set_cons_succ,List.getElem?_set,List.length_set,Nat.reduceLT,eq_str,ne_str,List.cons.injEq,and_true,and_false,true_and,false_and,Nat.reduceEqDiff,decide_true,decide_false,reduceCtorEq,Bool.not_true,Bool.not_false,Nat.reduceAdd,List.isEmpty_cons,List.isEmpty_nil,Nat.reduceLeDiff,Nat.zero_le,Option.isSome_some,Option.isSome_none,zbH,List.all_cons,List.all_nil,zbD,zbP,zaU,zbQ,Bool.and_true,Bool.true_and,reduceIte,List.mem_cons,List.not_mem_nil,or_false,false_or,or_true,true_or,itemsOf,Option.bind_some,compGo,zb6,o_len,zed,o_sub,o_neg,zef,zaR,zbt,zek,List.length_cons,List.length_nil,Nat.zero_add, *]) <;> rfl)) | (show (_ : Nat) < lim; decide) | decide))
   ·simp only [h1,h2,or_self,if_false,h3]
    (repeat' (first | with_reducible (first | exact zax | exact R_brk | apply R_seq | exact zbr | exact zbw | exact zau | refine zai ?_ | apply R_ite | refine R_tt ?_ | refine R_ff ?_ | apply zcs | apply zbq | exact zcu | apply R_wGo | refine zct ?_ | exact zew | exact zev | apply R_for | exact zcd | apply zaO | refine zbx ?_ | refine zcv ?_ | exact zdJ | exact zex | apply zam | apply za5 | apply zbc | apply R_ret | apply za4 | apply R_fz | apply R_aug) | (((try simp (config := {failIfUnchanged := false}) only [zcL,zcK,zdI,zbG,zaT,zbd,zaF,zbu,zcp,zbZ,zaX,zbk,zbf,zcf,zbE,zbv,za8,zbY,zbz,zbp,za1,zbo,zbn,zbm,zaJ,zbb,zbl,fzAll,ownAt,dS3,dS10,Mine.R.ds,Mine.R.fz,Mine.D.truth,List.map_cons,List.map_nil,List.getElem?_cons_zero,List.getElem?_cons_succ,List.getElem?_nil,Option.map_some,Option.map_none,List.set_cons_zero,List.set_cons_succ,List.getElem?_set,List.length_set,Nat.reduceLT,eq_str,ne_str,List.cons.injEq,and_true,and_false,true_and,false_and,Nat.reduceEqDiff,decide_true,decide_false,reduceCtorEq,Bool.not_true,Bool.not_false,Nat.reduceAdd,List.isEmpty_cons,List.isEmpty_nil,Nat.reduceLeDiff,Nat.zero_le,Option.isSome_some,Option.isSome_none,zbH,List.all_cons,List.all_nil,zbD,zbP,zaU,zbQ,Bool.and_true,Bool.true_and,reduceIte,List.mem_cons,List.not_mem_nil,or_false,false_or,or_true,true_or,itemsOf,Option.bind_some,compGo,zb6,o_len,zed,o_sub,o_neg,zef,zaR,zbt,zek,List.length_cons,List.length_nil,Nat.zero_add, *]) <;> rfl)) | (show (_ : Nat) < lim; decide) | decide))
theorem zjz (p b : List Nat) : (join1 p b).length ≤ p.length + b.length + 1 := by
 unfold join1
 split
 ·omega
 ·split <;> simp <;> omega
noncomputable def lenS (bs : List (List Nat)) : Nat := (bs.map fun b => b.length + 1).sum
theorem zf7 (hf : ∀ l,cf 2 [.str l] = some (.str l)) {a' ps : D} : ∀ (bs : List (List Nat)) (p : List Nat) (j4 : Slot),p.length + lenS bs ≤ lim →
  ∃ j,forGo (put1 4) (ex cf jBody) (bs.map .str) [.val a',.val ps,.val (.str [47]),.val (.str p),j4] = some ([.val a',.val ps,.val (.str [47]),.val (.str (joinP p bs)),j],.next)
 | [],p,j4,_ => ⟨j4,rfl⟩
 | b :: bs,p,j4,h => by
  have h' : p.length + (b.length + 1 + lenS bs) ≤ lim := by
   unfold lenS at h ⊢
   rw [List.map_cons,List.sum_cons] at h
   exact h
  have h2 := zjz p b
  obtain ⟨j,hj⟩ := zf7 hf (a' := a') (ps := ps) bs (join1 p b) (.val (.str b)) (by omega)
  refine ⟨j,zaO (st := put1 4) (d := .str b) rfl (zjw hf (p := p) (b := b) (by omega)) (zbx hj)⟩
end
section
variable {fns : Nat → Option Fn}
theorem join_ok (h2 : fns 2 = some fn_fspath) (h3 : fns 3 = some fn_get_sep) (h4 : fns 4 = some fn_join) (m : Nat) {a : List Nat} {bs : List (List Nat)} (h : a.length + lenS bs ≤ lim) (hn : bs.length < lim) :
  callF fns (m + 2) 4 (.str a :: bs.map .str) = some (.str (joinP a bs)) := by
 have hb : bindD fn_join (.str a :: bs.map .str) = some [.val (.str a),.val (.tup (bs.map .str)),.unset,.unset,.unset] := by
  unfold bindD fn_join
  simp only [if_true]
  rw [if_pos ⟨by simp,by simp; omega⟩]
  rfl
 refine zdh h4 hb ?_
 show ∃ ρ',ex (callF fns (m + 1)) s_join _ = _
 obtain ⟨j,hj⟩ := zf7 (cf := callF fns (m + 1)) (zdd h2 m) (a' := .str a) (ps := .tup (bs.map .str)) bs a .unset h
 have f1 := zdd h2 m a
 have f2 := zeZ h3 m a
 unfold s_join
 refine ⟨_,R_seq (zam (d := .str a) ?_ rfl) (zai (R_seq (zam (d := .str [47]) ?_ rfl) (zai (R_seq (zam (d := .str a) rfl rfl) (zai (R_seq (R_try (R_seq (R_for ?_ hj) (zai zax))) (zai (R_seq (R_ret (d := .str (joinP a bs)) rfl) zau))))))))⟩
 ·simp only [zcL,zaF,zbu,zcp,zbZ,zaX,zbk,zbf,zcf,zbE,zbv,za8,zbY,zbz,zbp,za1,zbo,zbn,zbm,zaJ,zbb,zbl,List.getElem?_cons_zero,fzAll,R.fz,f1,Option.map_some,zbG]
 ·simp only [zcL,zaF,zbu,zcp,zbZ,zaX,zbk,zbf,zcf,zbE,zbv,za8,zbY,zbz,zbp,za1,zbo,zbn,zbm,zaJ,zbb,zbl,List.getElem?_cons_zero,List.set_cons_zero,fzAll,R.fz,f2,Option.map_some,zbG]
 ·rfl
theorem zeU (h2 : fns 2 = some fn_fspath) (h3 : fns 3 = some fn_get_sep) (h5 : fns 5 = some fn_split) (m : Nat) {l x y z : List Nat} {r i n : D} {e : D} (hr : opF .rfind [.str l,.str [47]] = some (.val r)) (ha : opF .add [r,.int 1] = some (.val i))
  (s1 : opF .slice [.str l,.none,i] = some (.val (.str x))) (s2 : opF .slice [.str l,i,.none] = some (.val (.str y))) (hn : opF .len [.str x] = some (.val n)) (hm : opF .mul [.str [47],n] = some (.val e)) {b : Bool} (he : opF .ne [.str x,e] = some (.val (.bool b)))
  (hs : opF .rstrip [.str x,.str [47]] = some (.val (.str z))) : callF fns (m + 2) 5 [.str l] = some (.tup [.str (if x ≠ [] ∧ b = true then z else x),.str y]) := by
 refine zdh h5 (ρ := [.val (.str l),.unset,.unset,.unset,.unset]) rfl ?_
 show ∃ ρ',ex (callF fns (m + 1)) s_split _ = _
 have f1 := zdd h2 m l
 have f2 := zeZ h3 m l
 unfold s_split
 by_cases hx : x = []
 ·subst hx
  simp only [ne_eq,not_true,false_and,if_false]
  refine ⟨?w1, ?h1⟩
  case h1 => (repeat' (first | with_reducible (first | exact zax | exact R_brk | apply R_seq | exact zbr | exact zbw | exact zau | refine zai ?_ | apply R_ite | refine R_tt ?_ | refine R_ff ?_ | apply zcs | apply zbq | exact zcu | apply R_wGo | refine zct ?_ | exact zew | exact zev | apply R_for | exact zcd | apply zaO | refine zbx ?_ | refine zcv ?_ | exact zdJ | exact zex | apply zam | apply za5 | apply zbc | apply R_ret | apply za4 | apply R_fz | apply R_aug) | (((try simp (config := {failIfUnchanged := false}) only [zcL,zcK,zdI,zbG,zaT,zbd,zaF,zbu,zcp,zbZ,zaX,zbk,zbf,zcf,zbE,zbv,za8,zbY,zbz,zbp,za1,zbo,zbn,zbm,zaJ,zbb,zbl,fzAll,ownAt,dS3,dS10,Mine.R.ds,Mine.R.fz,Mine.D.truth,List.map_cons,List.map_nil,List.getElem?_cons_zero,List.getElem?_cons_succ,List.getElem?_nil,Option.map_some,Option.map_none,List.set_cons_zero,List.set_cons_succ,List.getElem?_set,List.length_set,Nat.reduceLT,eq_str,ne_str,List.cons.injEq,and_true,and_false,true_and,false_and,Nat.reduceEqDiff,decide_true,decide_false,reduceCtorEq,Bool.not_true,Bool.not_false,Nat.reduceAdd,List.isEmpty_cons,List.isEmpty_nil,Nat.reduceLeDiff,Nat.zero_le,Option.isSome_some,Option.isSome_none,zbH,List.all_cons,List.all_nil,zbD,zbP,zaU,zbQ,Bool.and_true,Bool.true_and,reduceIte,List.mem_cons,List.not_mem_nil,or_false,false_or,or_true,true_or,itemsOf,Option.bind_some,compGo,zb6,o_len,zed,o_sub,o_neg,zef,zaR,zbt,zek,List.length_cons,List.length_nil,Nat.zero_add, *]) <;> rfl)) | (show (_ : Nat) < lim; decide) | decide))
 ·have hx' : x.isEmpty = false := by cases x <;> first | rfl | exact absurd rfl hx
  cases b with
  | true =>
   simp only [ne_eq,hx,not_false_eq_true,and_self,if_true]
   refine ⟨?w2, ?h2⟩
   case h2 => (repeat' (first | with_reducible (first | exact zax | exact R_brk | apply R_seq | exact zbr | exact zbw | exact zau | refine zai ?_ | apply R_ite | refine R_tt ?_ | refine R_ff ?_ | apply zcs | apply zbq | exact zcu | apply R_wGo | refine zct ?_ | exact zew | exact zev | apply R_for | exact zcd | apply zaO | refine zbx ?_ | refine zcv ?_ | exact zdJ | exact zex | apply zam | apply za5 | apply zbc | apply R_ret | apply za4 | apply R_fz | apply R_aug) | (((try simp (config := {failIfUnchanged := false}) only [zcL,zcK,zdI,zbG,zaT,zbd,zaF,zbu,zcp,zbZ,zaX,zbk,zbf,zcf,zbE,zbv,za8,zbY,zbz,zbp,za1,zbo,zbn,zbm,zaJ,zbb,zbl,fzAll,ownAt,dS3,dS10,Mine.R.ds,Mine.R.fz,Mine.D.truth,List.map_cons,List.map_nil,List.getElem?_cons_zero,List.getElem?_cons_succ,List.getElem?_nil,Option.map_some,Option.map_none,List.set_cons_zero,List.set_cons_succ,List.getElem?_set,List.length_set,Nat.reduceLT,eq_str,ne_str,List.cons.injEq,and_true,and_false,true_and,false_and,Nat.reduceEqDiff,decide_true,decide_false,reduceCtorEq,Bool.not_true,Bool.not_false,Nat.reduceAdd,List.isEmpty_cons,List.isEmpty_nil,Nat.reduceLeDiff,Nat.zero_le,Option.isSome_some,Option.isSome_none,zbH,List.all_cons,List.all_nil,zbD,zbP,zaU,zbQ,Bool.and_true,Bool.true_and,reduceIte,List.mem_cons,List.not_mem_nil,or_false,false_or,or_true,true_or,itemsOf,Option.bind_some,compGo,zb6,o_len,zed,o_sub,o_neg,zef,zaR,zbt,zek,List.length_cons,List.length_nil,Nat.zero_add, *]) <;> rfl)) | (show (_ : Nat) < lim; decide) | decide))
  | false =>
   simp only [ne_eq,hx,not_false_eq_true,and_false,if_false,Bool.false_eq_true]
   refine ⟨?w3, ?h3⟩
   case h3 => (repeat' (first | with_reducible (first | exact zax | exact R_brk | apply R_seq | exact zbr | exact zbw | exact zau | refine zai ?_ | apply R_ite | refine R_tt ?_ | refine R_ff ?_ | apply zcs | apply zbq | exact zcu | apply R_wGo | refine zct ?_ | exact zew | exact zev | apply R_for | exact zcd | apply zaO | refine zbx ?_ | refine zcv ?_ | exact zdJ | exact zex | apply zam | apply za5 | apply zbc | apply R_ret | apply za4 | apply R_fz | apply R_aug) | (((try simp (config := {failIfUnchanged := false}) only [zcL,zcK,zdI,zbG,zaT,zbd,zaF,zbu,zcp,zbZ,zaX,zbk,zbf,zcf,zbE,zbv,za8,zbY,zbz,zbp,za1,zbo,zbn,zbm,zaJ,zbb,zbl,fzAll,ownAt,dS3,dS10,Mine.R.ds,Mine.R.fz,Mine.D.truth,List.map_cons,List.map_nil,List.getElem?_cons_zero,List.getElem?_cons_succ,List.getElem?_nil,Option.map_some,Option.map_none,List.set_cons_zero,List.set_cons_succ,List.getElem?_set,List.length_set,Nat.reduceLT,eq_str,ne_str,List.cons.injEq,and_true,and_false,true_and,false_and,Nat.reduceEqDiff,decide_true,decide_false,reduceCtorEq,Bool.not_true,Bool.not_false,Nat.reduceAdd,List.isEmpty_cons,List.isEmpty_nil,Nat.reduceLeDiff,Nat.zero_le,Option.isSome_some,Option.isSome_none,zbH,List.all_cons,List.all_nil,zbD,zbP,zaU,zbQ,Bool.and_true,Bool.true_and,reduceIte,List.mem_cons,List.not_mem_nil,or_false,false_or,or_true,true_or,itemsOf,Option.bind_some,compGo,zb6,o_len,zed,o_sub,o_neg,zef,zaR,zbt,zek,List.length_cons,List.length_nil,Nat.zero_add, *]) <;> rfl)) | (show (_ : Nat) < lim; decide) | decide))
end
theorem zaZ {n : Nat} (h : n ≤ 1000000) : small (n : Int) = true := by
 unfold small
 simp only [Bool.and_eq_true,decide_eq_true_eq]
 omega
theorem zcE {k n : Nat} (h : k ≤ n) : clip (k : Int) n = k := by
 unfold clip
 rw [if_neg (by omega)]
 split <;> omega
theorem o_to {x y : List Nat} (h : x.length ≤ 1000000) : opF .slice [.str (x ++ y),.none,.int (x.length : Int)] = some (.val (.str x)) := by
 have e : bound (.int (x.length : Int)) (x ++ y).length (x ++ y).length = some x.length := by
  show (if small (x.length : Int) = true then some (clip (x.length : Int) (x ++ y).length) else none) = _
  rw [if_pos (zaZ h),zcE (by simp)]
 show (match bound .none 0 (x ++ y).length,bound (.int (x.length : Int)) (x ++ y).length (x ++ y).length with
  | some lo,some hi => some (R.val (.str (cut (x ++ y) lo hi)))
  | _,_ => none) = _
 rw [e]
 show some (R.val (.str (cut (x ++ y) 0 x.length))) = _
 congr 3
 unfold cut
 simp
theorem zlq {x y : List Nat} (h : x.length ≤ 1000000) : opF .slice [.str (x ++ y),.int (x.length : Int),.none] = some (.val (.str y)) := by
 have e : bound (.int (x.length : Int)) 0 (x ++ y).length = some x.length := by
  show (if small (x.length : Int) = true then some (clip (x.length : Int) (x ++ y).length) else none) = _
  rw [if_pos (zaZ h),zcE (by simp)]
 show (match bound (.int (x.length : Int)) 0 (x ++ y).length,bound .none (x ++ y).length (x ++ y).length with
  | some lo,some hi => some (R.val (.str (cut (x ++ y) lo hi)))
  | _,_ => none) = _
 rw [e]
 show some (R.val (.str (cut (x ++ y) x.length (x ++ y).length))) = _
 congr 3
 unfold cut
 simp
theorem zkt {n : Nat} {c : Nat} : rep [c] (n : Int) = List.replicate n c := by
 unfold rep
 rw [Int.toNat_natCast]
 induction n with
 | zero => rfl
 | succ n ih => rw [List.replicate_succ,List.flatten_cons,ih]; rfl
theorem zkH {c n : Nat} (h : n ≤ lim) : opF .mul [.str [c],.int (n : Int)] = some (.val (.str (List.replicate n c))) := by
 show (if (small (n : Int) && decide (([c] : List Nat).length * (n : Int).toNat ≤ lim)) = true then some (R.val (.str (rep [c] (n : Int)))) else none) = _
 rw [if_pos,zkt]
 rw [Bool.and_eq_true,decide_eq_true_eq,Int.toNat_natCast]
 exact ⟨zaZ h,by simpa using h⟩
theorem zkG {a : List Nat} {c : Nat} : opF .rstrip [.str a,.str [c]] = some (.val (.str (a.reverse.dropWhile fun x => x == c).reverse)) := by
 show some (R.val (.str (Txt.rstripChars ⟨a.toArray⟩ ⟨[c].toArray⟩).cps.toList)) = _
 rw [rstrip1]
theorem zh3 {a : List Nat} {c : Nat} (h : c ∉ a) : opF .rfind [.str a,.str [c]] = some (.val (.int (-1))) := by
 show some (R.val (.int (Txt.rfind ⟨a.toArray⟩ ⟨[c].toArray⟩))) = _
 rw [zkr h]
theorem zh4 {x y : List Nat} {c : Nat} (h : c ∉ y) : opF .rfind [.str (x ++ c :: y),.str [c]] = some (.val (.int (x.length : Int))) := by
 show some (R.val (.int (Txt.rfind ⟨(x ++ c :: y).toArray⟩ ⟨[c].toArray⟩))) = _
 rw [zks h]
noncomputable def strip0 (x : List Nat) : List Nat := if x = List.replicate x.length 47 then x else (x.reverse.dropWhile fun c => c == 47).reverse
section
variable {fns : Nat → Option Fn}
theorem zkk (h2 : fns 2 = some fn_fspath) (h3 : fns 3 = some fn_get_sep) (h5 : fns 5 = some fn_split) (m : Nat) {l : List Nat} (h : 47 ∉ l) : callF fns (m + 2) 5 [.str l] = some (.tup [.str [],.str l]) := by
 have := zeU h2 h3 h5 m (l := l) (x := []) (y := l) (z := []) (r := .int (-1)) (i := .int 0) (n := .int 0) (e := .str []) (b := false) (zh3 h) rfl (o_to (x := []) (y := l) (by simp)) (zlq (x := []) (y := l) (by simp)) rfl rfl rfl rfl
 simpa using this
theorem zkl (h2 : fns 2 = some fn_fspath) (h3 : fns 3 = some fn_get_sep) (h5 : fns 5 = some fn_split) (m : Nat) {x y : List Nat} (h : 47 ∉ y) (hl : x.length < 1000000) :
  callF fns (m + 2) 5 [.str (x ++ 47 :: y)] = some (.tup [.str (strip0 (x ++ [47])),.str y]) := by
 have e : x ++ 47 :: y = (x ++ [47]) ++ y := by simp
 have hlen : ((x ++ [47]).length : Int) = (x.length : Int) + 1 := by simp
 have := zeU h2 h3 h5 m (l := x ++ 47 :: y) (x := x ++ [47]) (y := y) (z := ((x ++ [47]).reverse.dropWhile fun c => c == 47).reverse) (r := .int (x.length : Int)) (i := .int ((x ++ [47]).length : Int)) (n := .int ((x ++ [47]).length : Int))
  (e := .str (List.replicate (x ++ [47]).length 47)) (b := !decide (x ++ [47] = List.replicate (x ++ [47]).length 47)) (zh4 h) (by rw [hlen]; rfl) (by rw [e]; exact o_to (by simp; omega)) (by rw [e]; exact zlq (by simp; omega)) rfl (zkH (by unfold lim; simp; omega)) rfl zkG
 rw [this]
 unfold strip0
 by_cases hx : x ++ [47] = List.replicate (x ++ [47]).length 47
 ·rw [if_pos hx,if_neg (by rintro ⟨_,q⟩; rw [Bool.not_eq_true',decide_eq_false_iff_not] at q; exact q hx)]
 ·rw [if_neg hx,if_pos ⟨by simp,by rw [Bool.not_eq_true',decide_eq_false_iff_not]; exact hx⟩]
end
theorem o_mod {n k : Nat} (hk : k ≠ 0) : opF .mod [.int (n : Int),.int (k : Int)] = some (.val (.int ((n % k : Nat) : Int))) := by
 show (if (k : Int) = 0 then none else some (R.val (.int (Int.fmod (n : Int) (k : Int))))) = _
 rw [if_neg (by omega),Int.fmod_eq_emod_of_nonneg _ (by omega)]
 rfl
theorem o_div {n k : Nat} (hk : k ≠ 0) : opF .fdiv [.int (n : Int),.int (k : Int)] = some (.val (.int ((n / k : Nat) : Int))) := by
 show (if (k : Int) = 0 then none else some (R.val (.int (Int.fdiv (n : Int) (k : Int))))) = _
 rw [if_neg (by omega),Int.fdiv_eq_ediv_of_nonneg _ (by omega)]
 rfl
theorem o_gt0 {n : Nat} : opF .gt [.int (n : Int),.int 0] = some (.val (.bool (decide (0 < n)))) := by
 show some (R.val (.bool (decide ((0 : Int) < (n : Int))))) = _
 congr 4
 simp only [eq_iff_iff]
 omega
theorem zfn {l : List D} {k : Nat} {d : D} (h : l[k]? = some d) (hk : k ≤ 1000000) : opF .index [.tup l,.int (k : Int)] = some (.val d) := by
 show (if small (k : Int) = true then (match place (k : Int) l.length with | some k => (l[k]?).map R.val | none => none) else none) = _
 rw [if_pos (zaZ hk)]
 unfold place
 have : k < l.length := (List.getElem?_eq_some_iff.mp h).1
 rw [if_pos (by omega),if_pos (by omega)]
 simp only [Int.toNat_natCast,h,Option.map_some]
theorem zcl {l : List D} {k : Nat} {d : D} (h : l[k]? = some d) (hk : k ≤ 1000000) : opF .index [.list l,.int (k : Int)] = some (.val d) := by
 show (if small (k : Int) = true then (match place (k : Int) l.length with | some k => (l[k]?).map R.val | none => none) else none) = _
 rw [if_pos (zaZ hk)]
 unfold place
 have : k < l.length := (List.getElem?_eq_some_iff.mp h).1
 rw [if_pos (by omega),if_pos (by omega)]
 simp only [Int.toNat_natCast,h,Option.map_some]
theorem zco {cf : CfT} {i : Nat} {b : S} {I : Nat → List Slot → Prop} {a : Nat} : ∀ {m : Nat} {ρ : List Slot},I a ρ → (∀ k ρ,a ≤ k → k < a + m → I k ρ → ∃ ρ' o,ex cf b (ρ.set i (.val (.int (k : Int)))) = some (ρ',o) ∧ (o = .next ∨ o = .cont) ∧ I (k + 1) ρ') →
  ∃ ρ',forGo (put1 i) (ex cf b) ((List.range' a m).map fun (k : Nat) => .int (k : Int)) ρ = some (ρ',.next) ∧ I (a + m) ρ' := by
 intro m
 induction m generalizing a with
 | zero => intro ρ h0 _; exact ⟨ρ,rfl,h0⟩
 | succ m ih =>
  intro ρ h0 hs
  obtain ⟨ρ1,o,e1,ho,h1⟩ := hs a ρ (Nat.le_refl _) (by omega) h0
  obtain ⟨ρ2,e2,h2⟩ := ih (a := a + 1) h1 fun k ρ hk1 hk2 hI => hs k ρ (by omega) (by omega) hI
  refine ⟨ρ2, ?_,by rw [show a + (m + 1) = a + 1 + m by omega]; exact h2⟩
  rw [List.range'_succ,List.map_cons]
  refine zaO (st := put1 i) rfl e1 ?_
  rcases ho with rfl | rfl
  ·exact zbx e2
  ·exact zcv e2
theorem upTo_eq {n a : Nat} : (upTo n (a : Int) 1).map D.int = (List.range' a n).map fun (k : Nat) => .int (k : Int) := by
 unfold upTo
 rw [List.map_map,List.range'_eq_map_range,List.map_map]
 apply List.map_congr_left
 intro k _
 simp
theorem ziX {n : Nat} (h : n ≤ 1000000) : opRange [.int (n : Int)] = some ((List.range' 0 n).map fun (k : Nat) => .int (k : Int)) := by
 show (if (small (n : Int) && decide ((n : Int) ≤ 1000000)) = true then some (rangeL 0 (n : Int)) else none) = _
 rw [if_pos (by rw [zaZ h]; exact decide_eq_true (Int.ofNat_le.mpr h))]
 unfold rangeL
 have : ((n : Int) - 0).toNat = n := by rw [Int.sub_zero]; rfl
 rw [this]
 exact congrArg some (upTo_eq (a := 0))
mutual
theorem zjZ : ∀ d : D,PyData.eqv d.toPy d.toPy = true
 | .none => by unfold D.toPy; rfl
 | .bool b => by unfold D.toPy; simp [PyData.eqv]
 | .int i => by unfold D.toPy; simp [PyData.eqv]
 | .str l => by unfold D.toPy; simp [PyData.eqv]
 | .list l => by unfold D.toPy; rw [PyData.eqv]; exact zds l
 | .tup l => by unfold D.toPy; rw [PyData.eqv]; exact zds l
 | .tok k => by unfold D.toPy; simp [PyData.eqv,PyData.eqvAll]
 | .ty _ => by unfold D.toPy; rfl
theorem zds : ∀ l : List D,PyData.eqvAll (D.toPys l) (D.toPys l) = true
 | [] => by unfold D.toPys; rfl
 | d :: l => by unfold D.toPys; rw [PyData.eqvAll,zjZ d,zds l]; rfl
end
theorem ze0 : ∀ (l : List D),fzAll (l.map R.val) = some l
 | [] => rfl
 | d :: l => by
  rw [List.map_cons]
  unfold fzAll
  rw [ze0 l]; rfl
theorem zgQ {l : List D} {n : Nat} (h : n ≤ 1000000) (hl : n ≤ l.length) : opF .slice [.list l,.none,.int (n : Int)] = some (.own (l.take n)) := by
 have e : bound (.int (n : Int)) l.length l.length = some (clip (n : Int) l.length) := by
  show (if small (n : Int) = true then some (clip (n : Int) l.length) else none) = _
  rw [if_pos (zaZ h)]
 show (match bound .none 0 l.length,bound (.int (n : Int)) l.length l.length with
  | some lo,some hi => some (R.own (cut l lo hi))
  | _,_ => none) = _
 rw [e]
 show some (R.own (cut l 0 (clip (n : Int) l.length))) = _
 rw [zcE hl]; rfl
theorem o_eqi {a b : Int} : opF .eq [.int a,.int b] = some (.val (.bool (decide (a = b)))) := rfl
theorem zld {cf : CfT} {i : Nat} {it c e : X} {ρ : List Slot} {items l : List D} (h : ev cf it ρ = some [.val (.list items)]) (hg : compGo (fun d => turnD (ev cf c (ρ.set i (.val d))) (ev cf e (ρ.set i (.val d)))) items = some l) :
  ev cf (.comp i it c e) ρ = some [.own l] := by
 rw [zbp]
 simp only [h,hg,Option.map_some]
theorem zjM {cf : CfT} {i : Nat} {b : S} {I : List Slot → Prop} : ∀ {l : List D} {ρ : List Slot},I ρ → (∀ d ∈ l, ∀ ρ,I ρ → ∃ ρ',ex cf b (ρ.set i (.val d)) = some (ρ',.next) ∧ I ρ') →
  ∃ ρ',forGo (put1 i) (ex cf b) l ρ = some (ρ',.next) ∧ I ρ'
 | [],ρ,h,_ => ⟨ρ,rfl,h⟩
 | d :: l,ρ,h,hs => by
  obtain ⟨ρ1,e1,h1⟩ := hs d List.mem_cons_self ρ h
  obtain ⟨ρ2,e2,h2⟩ := zjM (l := l) h1 fun d hd => hs d (List.mem_cons_of_mem _ hd)
  exact ⟨ρ2,zaO (st := put1 i) rfl e1 (zbx e2),h2⟩
theorem zkx {α β : Type} (f : α → β) (l : List α) (lo hi st : Option Int) : pick (l.map f) lo hi st = (pick l lo hi st).map f := by
 unfold pick
 rw [List.length_map,List.map_filterMap]
 congr 1
 funext k
 rw [List.getElem?_map]
theorem zeS : ∀ l : List Int,toInts (l.map D.int) = some l
 | [] => rfl
 | i :: l => by
  rw [List.map_cons]
  unfold toInts
  rw [zeS l]; rfl
theorem o_sumi {l : List Int} : opF .sum [.list (l.map .int)] = some (.val (.int l.sum)) := by
 show (toInts (l.map D.int)).map (fun is => R.val (.int is.sum)) = _
 rw [zeS]; rfl
theorem o_absi {i : Int} : opF .abs [.int i] = some (.val (.int (i.natAbs : Int))) := rfl
theorem zkF {ns : List Int} {k n : Nat} (hk : k ≤ 1000000) (hn : n ≤ 1000000) (h0 : n ≠ 0) : opF .slice3 [.list (ns.map .int),.int (k : Int),.none,.int (n : Int)] = some (.own ((pick ns (some (k : Int)) none (some (n : Int))).map .int)) := by
 have e : partD (.int (k : Int)) = some (some (k : Int)) := by
  show (if small (k : Int) = true then some (some (k : Int)) else none) = _
  rw [if_pos (zaZ hk)]
 show (match partD (.int (k : Int)),partD .none with
  | some lo,some hi => if (n : Int) ≠ 0 ∧ small (n : Int) then some (R.own (pick (ns.map D.int) lo hi (some (n : Int)))) else none
  | _,_ => none) = _
 rw [e]
 show (if (n : Int) ≠ 0 ∧ small (n : Int) then some (R.own (pick (ns.map D.int) (some (k : Int)) none (some (n : Int)))) else none) = _
 rw [if_pos ⟨by omega,zaZ hn⟩,zkx]
section
variable {cf : CfT} {ρ : List Slot} {a b c : R}
theorem zaA {x xs : X} {rs : List R} (h1 : ev cf x ρ = some [a]) (h2 : ev cf xs ρ = some rs) : ev cf (.cons x xs) ρ = some (a :: rs) := by rw [zaX,h1,h2]; rfl
theorem V_op {f : Op} {xs : X} {rs : List R} {r : R} (h1 : ev cf xs ρ = some rs) (h : opF f (rs.map R.ds) = some r) : ev cf (.op f xs) ρ = some [r] := by rw [zcp,h1]; simp only [h]; rfl
theorem V_op1 {f : Op} {x : X} {r : R} (h1 : ev cf x ρ = some [a]) (h : opF f [a.ds] = some r) : ev cf (.op f (.cons x .nil)) ρ = some [r] := V_op (zaA h1 rfl) h
theorem V_op2 {f : Op} {x y : X} {r : R} (h1 : ev cf x ρ = some [a]) (h2 : ev cf y ρ = some [b]) (h : opF f [a.ds,b.ds] = some r) : ev cf (.op f (.cons x (.cons y .nil))) ρ = some [r] := V_op (zaA h1 (zaA h2 rfl)) h
theorem V_op3 {f : Op} {x y z : X} {r : R} (h1 : ev cf x ρ = some [a]) (h2 : ev cf y ρ = some [b]) (h3 : ev cf z ρ = some [c]) (h : opF f [a.ds,b.ds,c.ds] = some r) : ev cf (.op f (.cons x (.cons y (.cons z .nil)))) ρ = some [r] := V_op (zaA h1 (zaA h2 (zaA h3 rfl))) h
theorem za9 {f : Nat} {xs : X} {rs : List R} {ds : List D} {d : D} (h1 : ev cf xs ρ = some rs) (h2 : fzAll rs = some ds) (h : cf f ds = some d) : ev cf (.call f xs) ρ = some [.val d] := by rw [za8,h1]; simp only [h2,h]; rfl
theorem zdZ {x y : X} (h1 : ev cf x ρ = some [.val (.bool false)]) : ev cf (.and x y) ρ = some [.val (.bool false)] := by rw [zbf,h1]; rfl
theorem zdY {x y : X} (h1 : ev cf x ρ = some [.val (.bool true)]) (h2 : ev cf y ρ = some [a]) : ev cf (.and x y) ρ = some [a] := by rw [zbf,h1]; exact h2
theorem V_and {x y : X} {p q : Bool} (h1 : ev cf x ρ = some [.val (.bool p)]) (h2 : p = true → ev cf y ρ = some [.val (.bool q)]) : ev cf (.and x y) ρ = some [.val (.bool (p && q))] := by
 cases p
 ·exact zdZ h1
 ·exact zdY h1 (h2 rfl)
theorem zlf {x y z : X} (h1 : ev cf x ρ = some [.val (.bool true)]) (h2 : ev cf y ρ = some [a]) : ev cf (.ite x y z) ρ = some [a] := by rw [zbv,h1]; exact h2
theorem zlg {x y z : X} (h1 : ev cf x ρ = some [.val (.bool false)]) (h2 : ev cf z ρ = some [a]) : ev cf (.ite x y z) ρ = some [a] := by rw [zbv,h1]; exact h2
theorem zdg {x : X} {d : D} {l : List D} (h1 : ev cf x ρ = some [a]) (h2 : a.fz = some d) (h3 : itemsOf d = some l) : ev cf (.seqI x) ρ = some [.val (.list l)] := by rw [zbm,h1]; simp only [h2,h3]; rfl
theorem zcc {xs : X} {rs : List R} {l : List D} (h1 : ev cf xs ρ = some rs) (h : opRange (rs.map R.ds) = some l) : ev cf (.rangeI xs) ρ = some [.val (.list l)] := by rw [zaJ,h1]; simp only [h]; rfl
theorem E_of {x : X} {d : D} (h : ev cf x ρ = some [a]) (h2 : a.fz = some d) : ev1 cf x ρ = some d := by rw [zcL,h]; exact h2
theorem T_of {x : X} {t : Bool} (h : ev cf x ρ = some [.val (.bool t)]) : evT cf x ρ = some t := by rw [zcK,h]; rfl
theorem I_of {x : X} {l : List D} (h : ev cf x ρ = some [.val (.list l)]) : evI cf x ρ = some l := by rw [zdI,h]; rfl
theorem V_v {ρ : List Slot} {i : Nat} {s : Slot} {d : D} (e : ρ[i]? = some s) (h : s = .val d) : ev cf (.var i) ρ = some [.val d] := by rw [zbu,e,h]
theorem V_or {x y : X} {p q : Bool} (h1 : ev cf x ρ = some [.val (.bool p)]) (h2 : ev cf y ρ = some [.val (.bool q)]) : ev cf (.or x y) ρ = some [.val (.bool (p || q))] := by
 rw [zcf,h1]
 cases p
 ·exact h2
 ·rfl
end
section
variable {fns : Nat → Option Fn}
end
noncomputable def NameOK (w : List Nat) : Prop := w ≠ [] ∧ 47 ∉ w
noncomputable def txt : List (List Nat) → List Nat
 | [] => []
 | w :: ws => ws.foldl (fun p b => p ++ 47 :: b) w
theorem txt_one (w : List Nat) : txt [w] = w := rfl
theorem ze7 {d : List (List Nat)} (h : d ≠ []) (w : List Nat) : txt (d ++ [w]) = txt d ++ 47 :: w := by
 cases d with
 | nil => exact absurd rfl h
 | cons a d =>
  show (d ++ [w]).foldl _ a = _
  rw [List.foldl_append]
  rfl
theorem ziA : ∀ {d : List (List Nat)},d ≠ [] → (∀ w ∈ d,NameOK w) → ∃ t c,txt d = t ++ [c] ∧ c ≠ 47 := by
 intro d h0 h
 rcases List.eq_nil_or_concat d with e | ⟨d',w,e⟩
 ·exact absurd e h0
 ·rw [List.concat_eq_append] at e
  subst e
  obtain ⟨w0,w1⟩ := h w (by simp)
  rcases List.eq_nil_or_concat w with e | ⟨w',c,e⟩
  ·exact absurd e w0
  ·rw [List.concat_eq_append] at e
   subst e
   have hc : c ≠ 47 := fun q => w1 (by rw [q]; simp)
   by_cases h1 : d' = []
   ·subst h1
    exact ⟨w',c,rfl,hc⟩
   ·exact ⟨txt d' ++ 47 :: w',c,by rw [ze7 h1]; simp,hc⟩
theorem txt_ne {d : List (List Nat)} (h0 : d ≠ []) (h : ∀ w ∈ d,NameOK w) : txt d ≠ [] := by
 obtain ⟨t,c,e,_⟩ := ziA h0 h
 rw [e]; simp
theorem zhQ {d : List (List Nat)} (h0 : d ≠ []) (h : ∀ w ∈ d,NameOK w) : strip0 (txt d ++ [47]) = txt d := by
 obtain ⟨t,c,e,hc⟩ := ziA h0 h
 rw [e]
 unfold strip0
 rw [if_neg]
 ·have hcb : (c == 47) = false := by simp [hc]
  simp [List.reverse_append,List.dropWhile_cons,hcb]
 ·intro q
  have : c ∈ t ++ [c] ++ [47] := by simp
  rw [q] at this
  exact hc (List.eq_of_mem_replicate this)
theorem txt_len : ∀ {d : List (List Nat)} {k : Nat},(∀ w ∈ d,w.length ≤ k) → (txt d).length ≤ (k + 1) * d.length := by
 intro d
 induction h : d.length generalizing d with
 | zero =>
  intro k _
  rw [List.length_eq_zero_iff.mp h]; simp [txt]
 | succ n ih =>
  intro k hk
  rcases List.eq_nil_or_concat d with e | ⟨d',w,e⟩
  ·subst e; injection h
  ·rw [List.concat_eq_append] at e
   subst e
   have hn : d'.length = n := by simpa using h
   have hw := hk w (by simp)
   have := ih hn fun w hw => hk w (List.mem_append_left _ hw)
   by_cases h1 : d' = []
   ·subst h1
    simp only [List.nil_append,txt_one]
    have : (k + 1) * (n + 1) ≥ k + 1 := Nat.le_mul_of_pos_right _ (by omega)
    omega
   ·rw [ze7 h1]
    simp only [List.length_append,List.length_cons]
    rw [Nat.mul_succ]
    omega
section
variable {fns : Nat → Option Fn}
theorem ziI (h2 : fns 2 = some fn_fspath) (h3 : fns 3 = some fn_get_sep) (h5 : fns 5 = some fn_split) (m : Nat) {d : List (List Nat)} {w : List Nat} (hd : ∀ w ∈ d,NameOK w) (hw : NameOK w) (hl : (txt d).length < 1000000) : callF fns (m + 2) 5 [.str (txt (d ++ [w]))] = some (.tup [.str (txt d),.str w]) := by
 by_cases h0 : d = []
 ·subst h0
  exact zkk h2 h3 h5 m hw.2
 ·rw [ze7 h0,zkl h2 h3 h5 m hw.2 hl,zhQ h0 hd]
theorem zel : ∀ {bs : List (List Nat)} {p : List Nat},p ≠ [] → p.getLast? ≠ some 47 → (∀ w ∈ bs,NameOK w) → joinP p bs = bs.foldl (fun p b => p ++ 47 :: b) p
 | [],_,_,_,_ => rfl
 | b :: bs,p,h0,h1,h => by
  obtain ⟨b0,b1⟩ := h b List.mem_cons_self
  have e : join1 p b = p ++ 47 :: b := by
   unfold join1
   rw [if_neg (by
    rintro (q | q)
    ·exact b1 (List.mem_of_head? q)
    ·exact h0 q),if_neg h1]
  show joinP (join1 p b) bs = _
  rw [e]
  refine zel (by simp) ?_ fun w hw => h w (List.mem_cons_of_mem _ hw)
  intro q
  rcases List.eq_nil_or_concat b with q2 | ⟨b',c,q2⟩
  ·exact b0 q2
  ·rw [List.concat_eq_append] at q2
   subst q2
   have e3 : (p ++ 47 :: (b' ++ [c])) = (p ++ 47 :: b') ++ [c] := by simp
   rw [e3,List.getLast?_append] at q
   have e4 : c = 47 := by simpa using q
   exact b1 (by rw [e4]; simp)
end
noncomputable def nD (n : List (List Nat)) : D := .list (n.map .str)
noncomputable def tD (t : List (List (List Nat))) : List D := t.map nD
theorem zjY {a b : List Nat} : PyData.eqv (D.str a).toPy (D.str b).toPy = decide (a = b) := by
 have h := fun (x y : PySem.Str) => (show PyData.eqv (.str x) (.str y) = (x == y) from by simp [PyData.eqv])
 show PyData.eqv (.str ⟨a.toArray⟩) (.str ⟨b.toArray⟩) = _
 rw [h]
 by_cases e : a = b
 ·subst e; simp
 ·rw [decide_eq_false e,beq_eq_false_iff_ne]
  intro q
  exact e (by simpa using q)
theorem zhG : ∀ {a b : List (List Nat)},PyData.eqvAll (D.toPys (a.map .str)) (D.toPys (b.map .str)) = decide (a = b)
 | [],[] => rfl
 | [],_ :: _ => by simp [D.toPys,PyData.eqvAll]
 | _ :: _,[] => by simp [D.toPys,PyData.eqvAll]
 | x :: a,y :: b => by
  simp only [List.map_cons,D.toPys,PyData.eqvAll,zjY,zhG (a := a) (b := b)]
  by_cases h1 : x = y <;> by_cases h2 : a = b <;> simp [h1,h2]
theorem eqv_nD {a b : List (List Nat)} : PyData.eqv (nD a).toPy (nD b).toPy = decide (a = b) := by
 unfold nD D.toPy
 rw [PyData.eqv]
 exact zhG
theorem zi3 : ∀ {k : Nat} {l : List (List Nat)},D.oks (k + 1) (l.map .str) = true
 | _,[] => rfl
 | k,s :: l => by
  rw [List.map_cons]
  unfold D.oks
  rw [zi3]; rfl
theorem ok_nD {k : Nat} {n : List (List Nat)} : (nD n).ok (k + 2) = true := by
 unfold nD D.ok
 exact zi3
theorem zlo : ∀ {k : Nat} {t : List (List (List Nat))},D.oks (k + 2) (tD t) = true
 | _,[] => rfl
 | k,n :: t => by
  show D.oks (k + 2) (nD n :: tD t) = true
  unfold D.oks
  rw [ok_nD,zlo]; rfl
theorem o_eq_nD {a b : List (List Nat)} : opF .eq [nD a,nD b] = some (.val (.bool (decide (a = b)))) := by
 have e : eqD (nD a) (nD b) = some (decide (a = b)) := by
  show (if ((nD a).ok 9 && (nD b).ok 9) = true then some (PyData.eqv (nD a).toPy (nD b).toPy) else none) = _
  rw [ok_nD,ok_nD,eqv_nD]; rfl
 show (eqD (nD a) (nD b)).map (fun x => R.val (.bool x)) = _
 rw [e]; rfl
section
variable {cf : CfT} {ρ : List Slot} {a b c : R}
theorem zbI {α : Type} {f : D → Option (Option D)} {g v : α → D} {p : α → Bool} : ∀ {l : List α},(∀ a ∈ l,f (g a) = some (if p a then some (v a) else none)) → compGo f (l.map g) = some ((l.filter p).map v)
 | [],_ => rfl
 | a :: l,h => by
  rw [List.map_cons]
  unfold compGo
  rw [h a List.mem_cons_self,zbI fun b hb => h b (List.mem_cons_of_mem _ hb)]
  cases e : p a
  ·rw [List.filter_cons_of_neg (by rw [e]; exact Bool.false_ne_true)]; rfl
  ·rw [List.filter_cons_of_pos e]; rfl
theorem zgw {p : Bool} {x : Option (List R)} {y : Option (List R)} {d : D} {r : R} (h1 : x = some [.val (.bool p)]) (h2 : p = true → y = some [r]) (h3 : r.fz = some d) : turnD x y = some (if p then some d else none) := by
 rw [h1]
 cases p
 ·rfl
 ·rw [h2 rfl]
  show r.fz.map some = _
  rw [h3]; rfl
theorem zkf {α : Type} {i : Nat} {it cd e : X} {l : List α} {g v : α → D} {p : α → Bool} (h : ev cf it ρ = some [.val (.list (l.map g))])
  (hg : ∀ a ∈ l,turnD (ev cf cd (ρ.set i (.val (g a)))) (ev cf e (ρ.set i (.val (g a)))) = some (if p a then some (v a) else none)) : ev cf (.comp i it cd e) ρ = some [.own ((l.filter p).map v)] :=
 zld h (zbI hg)
theorem V_comp2 {α : Type} {i j : Nat} {it cd e : X} {l : List α} {g1 g2 v : α → D} {p : α → Bool} (h : ev cf it ρ = some [.val (.list (l.map fun a => .tup [g1 a,g2 a]))])
  (hg : ∀ a ∈ l,turnD (ev cf cd ((ρ.set i (.val (g1 a))).set j (.val (g2 a)))) (ev cf e ((ρ.set i (.val (g1 a))).set j (.val (g2 a)))) = some (if p a then some (v a) else none)) : ev cf (.comp2 i j it cd e) ρ = some [.own ((l.filter p).map v)] := by
 rw [za1,h]
 simp only
 rw [zbI hg]; rfl
end
noncomputable abbrev Nm := List (List Nat)
noncomputable def wd4 : List (List Nat) := [[97],[98],[46,97],[97,98]]
theorem zb5 {α β : Type} {l : List α} {f g : α → β} (h : l.map f = l.map g) {a : α} (ha : a ∈ l) : f a = g a := List.map_inj_left.mp h a ha
theorem zd2 {α β : Type} {f : Nat → α} {t : List β} {g : β → α} {n k : Nat} {d : β} (h : (List.range n).map f = t.map g) (hk : k < n) : f k = g (t.getD k d) := by
 have h1 := congrArg (·[k]?) h
 simp only [List.getElem?_map,List.getElem?_range hk,Option.map_some] at h1
 cases q : t[k]? with
 | none => rw [q] at h1; injection h1
 | some b => rw [q] at h1; rw [List.getD_eq_getElem?_getD,q]; exact Option.some.inj h1
noncomputable def upd (f : Nat → Slot) (i : Nat) (v : Slot) : Nat → Slot := fun k => if k = i then v else f k
noncomputable def NA (f : Nat → Slot) : Prop := ∀ i k,appOK k (f i) = true
theorem NA.upd {f : Nat → Slot} (h : NA f) {i : Nat} {v : Slot} (hv : ∀ k,appOK k v = true) : NA (upd f i v) := by
 intro j k
 unfold Mine.upd
 split
 ·exact hv k
 ·exact h j k
section
variable {cf : CfT} {f : Nat → Slot}
theorem zeu {ρ : List Slot} {α : Type} {i : Nat} {it e : X} {l : List α} {g v : α → D} (h : ev cf it ρ = some [.val (.list (l.map g))])
  (hg : ∀ a ∈ l, ∃ r,ev cf e (ρ.set i (.val (g a))) = some [r] ∧ r.fz = some (v a)) : ev cf (.comp i it (.const (.bool true)) e) ρ = some [.own (l.map v)] := by
 have := zkf (cf := cf) (i := i) (cd := .const (.bool true)) (e := e) (p := fun _ => true) (v := v) h fun a ha => by
  obtain ⟨r,h1,h2⟩ := hg a ha
  exact zgw (p := true) (d := v a) rfl (fun _ => h1) h2
 rw [List.filter_eq_self.mpr fun _ _ => rfl] at this
 exact this
end
noncomputable def nI (i : Nat) : D := .int (i : Int)
theorem zkb {α : Type} {β : Type} {g : α → β} {l : List α} {i : Nat} (h : i < l.length) (d : α) : (l.map g)[i]? = some (g (l.getD i d)) := by
 rw [List.getElem?_map,List.getD_eq_getElem?_getD,List.getElem?_eq_getElem h]; rfl
theorem zhA {α : Type} {l : List α} {i : Nat} (h : i < l.length) (d : α) : l.getD i d ∈ l := by
 rw [List.getD_eq_getElem?_getD,List.getElem?_eq_getElem h]; exact List.getElem_mem _
theorem zbe {n : Nat} (h : n ≤ 1000000) : opRange [nI n] = some ((List.range' 0 n).map nI) := ziX h
theorem zhr {α : Type} {g : α → D} {l : List α} : opF .len [.list (l.map g)] = some (.val (nI l.length)) := by
 show some (R.val (.int ((l.map g).length : Int))) = _
 rw [List.length_map]; rfl
theorem zee {a b : Nat} : opF .add [.int (a : Int),.int (b : Int)] = some (.val (.int ((a + b : Nat) : Int))) := by
 show some (R.val (.int ((a : Int) + (b : Int)))) = _
 congr 3
theorem zi4 {α : Type} {f : α → D} {k : Nat} (h : ∀ a,(f a).ok k = true) : ∀ l : List α,D.oks k (l.map f) = true
 | [] => rfl
 | a :: l => by
  rw [List.map_cons]
  unfold D.oks
  rw [h a,zi4 h l]; rfl
theorem zkc {α : Type} {f : α → D} {y : D} {P : α → Bool} (h : ∀ a,PyData.eqv (f a).toPy y.toPy = P a) : ∀ l : List α,((D.toPys (l.map f)).any fun x => PyData.eqv x y.toPy) = l.any P
 | [] => rfl
 | a :: l => by
  rw [List.map_cons]
  unfold D.toPys
  rw [List.any_cons,h a,zkc h l]; rfl
theorem in_map {α : Type} {f : α → D} {y : D} {P : α → Bool} {l : List α} (ho : ∀ a,(f a).ok 8 = true) (hy : y.ok 9 = true) (h : ∀ a,PyData.eqv (f a).toPy y.toPy = P a) : inD y (.list (l.map f)) = some (l.any P) := by
 show (if (D.oks 8 (l.map f) && y.ok 9) = true then some ((D.toPys (l.map f)).any fun x => PyData.eqv x y.toPy) else none) = _
 rw [zi4 ho,hy,zkc h]; rfl
theorem ziB {l : List Nat} {k : Nat} (h : k < l.length) (hk : k ≤ 1000000) : opF .index [.tup (l.map fun (n : Nat) => .int (n : Int)),.int (k : Int)] = some (.val (.int (l.getD k 0 : Int))) := by
 refine zfn ?_ hk
 rw [List.getElem?_map,List.getD_eq_getElem?_getD,List.getElem?_eq_getElem h]; rfl
end Mine
end
section
open PySem PySem.StrLaws PySem.Builtin PySem.Builtin.Str
noncomputable section
namespace Mine
noncomputable def V5 : List Nm := [[]] ++ wd4.map (fun a => [a]) ++ wd4.flatMap (fun a => wd4.map fun b => [a,b])
noncomputable def E5 : List Nm := wd4.map (fun a => [a]) ++ wd4.flatMap (fun a => wd4.map fun b => [a,b]) ++ wd4.flatMap (fun a => wd4.flatMap fun b => wd4.map fun c => [a,b,c])
noncomputable def U5 : List Nm := [] :: E5
noncomputable def pt (n : Nm) : List Nat := joinL [47] n
noncomputable def tT (k : Nat) : List Nat := [[42],[97],[97,42],[63],[91,33,97,93,42],[42,98],[91,46,45,97,93,63],[46,42],[91,98,45,97,93],[91,33,98,45,97,93,98],[98],[42,91,97,98,93],[97,63,98],[42,42]].getD k []
noncomputable def mD (k : Nat) : D := [.list [.none],.list [.str [97]],.list [.str [97],.none],.list [.str [46,97,98]],.list [.str [46,98],.none],.list [.none,.str [98]],.list [.str [46,97],.str [46,97,98]],.list [.str [46],.none],.list [.str []],.list [.str [46,97,98],.str [98]],.list [.str [98]],.list [.none,.str [97,98]],.list [.str [97],.str [46,97,98],.str [98]]].getD k .none
noncomputable def pcD (k : Nat) : D := .tup [.str (tT k),mD k]
noncomputable def tabP : List (List D) := [[.tok 0],[.str [97]],[.str [97],.tok 0],[.str [46]],[.str [91,94,97,93],.tok 0],[.tok 0,.str [98]],[.str [91,46,45,97,93],.str [46]],[.str [92,46],.tok 0],[.str [40,63,33,41]],[.str [46],.str [98]],[.str [98]],[.tok 0,.str [91,97,98,93]],[.str [97],.str [46],.str [98]]]
noncomputable def tabB : List (List Bool) := [[true,true,true,true],[true,false,false,false],[true,false,false,true],[true,true,false,false],[false,true,true,false],[false,true,false,true],[false,false,true,true],[false,false,true,false],[false,false,false,false],[false,false,false,true],[false,true,false,false],[true,true,true,true],[false,false,false,false]]
noncomputable def tP (k : Nat) : List D := tabP.getD k []
noncomputable def mB (k : Nat) (t : List Nat) : Bool := (tabB.getD k []).getD (wd4.idxOf t) false
noncomputable def lst (n : Nm) : List Nat := n.getLastD []
theorem join5 (m : Nat) : V5.map (fun n => wd4.map fun w => callF fns05 (m + 2) 4 [.str (pt n),.str w]) = V5.map (fun n => wd4.map fun w => some (.str (pt (n ++ [w])))) := by kernel_rfl
theorem split5 (m : Nat) : U5.map (fun n => callF fns05 (m + 2) 5 [.str (pt n)]) = U5.map (fun n => some (.tup [.str (pt n.dropLast),.str (lst n)])) := by kernel_rfl
theorem base5 (m : Nat) : E5.map (fun n => callF fns05 (m + 2) 8 [.str (pt n)]) = E5.map (fun n => some (.str (lst n))) := by kernel_rfl
theorem norm5 (m : Nat) : E5.map (fun n => (callF fns05 (m + 3) 4 [.str (pt n),.str [46,46],.str (lst n)]).bind fun d => callF fns05 (m + 3) 9 [d]) = E5.map (fun n => some (.str (pt n))) := by kernel_rfl
theorem zlv : E5.map (fun n => opF .split [.str (pt n),.str [47]]) = E5.map (fun n => some (.own (n.map .str))) := by kernel_rfl
theorem tr5 (m : Nat) : (List.range 13).map (fun k => callF fns05 (m + 2) 1 [.str (tT k),.tok 0,.str [46]]) = tabP.map fun l => some (.list l) := by kernel_rfl
theorem tk5 (m : Nat) : (List.range 13).map (fun k => (List.range 4).map fun w => callF fns05 (m + 2) 15 [.list (tP k),.tok 0,.str (wd4.getD w [])]) = tabB.map fun l => l.map fun b => some (.bool b) := by kernel_rfl
theorem mn5 (m : Nat) : (List.range 13).map (fun k => (List.range 4).map fun w => callF fns05 (m + 5) 16 [mD k,.str (wd4.getD w [])]) = tabB.map fun l => l.map fun b => some (.bool b) := by kernel_rfl
theorem ziy {t : List Nat} (h : t ∈ wd4) : wd4.idxOf t < 4 ∧ wd4.getD (wd4.idxOf t) [] = t := by
 have h1 : wd4.idxOf t < wd4.length := List.idxOf_lt_length_iff.mpr h
 refine ⟨h1, ?_⟩
 rw [List.getD_eq_getElem?_getD,List.getElem?_eq_getElem h1]
 exact List.getElem_idxOf h1
theorem takes5 (m : Nat) {k : Nat} {t : List Nat} (h : k < 13) (ht : t ∈ wd4) : callF fns05 (m + 2) 15 [.list (tP k),.tok 0,.str t] = some (.bool (mB k t)) := by
 obtain ⟨h1,h2⟩ := ziy ht
 have e := zd2 (f := fun w => callF fns05 (m + 2) 15 [.list (tP k),.tok 0,.str (wd4.getD w [])]) (g := fun b => some (D.bool b)) (d := false) (zd2 (g := fun (l : List Bool) => l.map fun b => some (D.bool b)) (d := []) (tk5 m) h) h1
 simp only [h2] at e
 exact e
theorem means5 (m : Nat) {k : Nat} {t : List Nat} (h : k < 13) (ht : t ∈ wd4) : callF fns05 (m + 5) 16 [mD k,.str t] = some (.bool (mB k t)) := by
 obtain ⟨h1,h2⟩ := ziy ht
 have e := zd2 (f := fun w => callF fns05 (m + 5) 16 [mD k,.str (wd4.getD w [])]) (g := fun b => some (D.bool b)) (d := false) (zd2 (g := fun (l : List Bool) => l.map fun b => some (D.bool b)) (d := []) (mn5 m) h) h1
 simp only [h2] at e
 exact e
theorem zli (m : Nat) {k : Nat} (h : k < 13) : callF fns05 (m + 2) 1 [.str (tT k),.tok 0,.str [46]] = some (.list (tP k)) := zd2 (tr5 m) h
theorem dress5 (m : Nat) : (List.range 13).map (fun k => callF fns05 (m + 1) 17 [nI k]) = (List.range 13).map (fun k => some (pcD k)) := by kernel_rfl
theorem dd5 : (List.range 14).map (fun k => opF .eq [.str (tT k),.str [42,42]]) = (List.range 14).map (fun k => some (R.val (.bool (decide (k = 13))))) := by kernel_rfl
theorem em5 : U5.map (fun n => opF .eq [.str (pt n),.str []]) = U5.map (fun n => some (R.val (.bool (decide (n = []))))) := by kernel_rfl
theorem nem5 : U5.map (fun n => opF .ne [.str (pt n),.str []]) = U5.map (fun n => some (R.val (.bool (!decide (n = []))))) := by kernel_rfl
theorem par5 : ∀ n ∈ U5,n.dropLast ∈ U5 := by decide +kernel
theorem last5 : ∀ n ∈ U5,n ≠ [] → lst n ∈ wd4 := by decide +kernel
theorem snoc5 : ∀ n ∈ V5, ∀ w ∈ wd4,n ++ [w] ∈ E5 := by decide +kernel
theorem len5 : ∀ n ∈ U5,n.length ≤ 3 := by decide +kernel
theorem name5 : ∀ k,k < 14 → NameOK (tT k) := by
 intro k hk
 exact (show ∀ k,k < 14 → tT k ≠ [] ∧ 47 ∉ tT k by decide) k hk
theorem dom5 : ∀ k,k < 13 → tT k ∈ cp05.dom := by decide
noncomputable def star5 (f : Nm → Bool) : Nm → Bool
 | [] => f []
 | w :: n => f (w :: n) || star5 f n
noncomputable def st5 (f : Nm → Bool) : Nm → Bool
 | [] => false
 | _ :: n => star5 f n
noncomputable def one5 (k : Nat) (f : Nm → Bool) : Nm → Bool
 | [] => false
 | w :: n => mB k w && f n
noncomputable def bh : List Nat → Nm → Bool
 | [] => fun n => decide (n = [])
 | k :: P => if k = 13 then star5 (bh P) else one5 k (bh P)
noncomputable def pat5 (P : List Nat) : List Nat := txt (P.map tT)
theorem zka {k : Nat} {P : List Nat} (h : k ≠ 13) : bh (k :: P) = one5 k (bh P) := if_neg h
section
variable {cf : CfT}
theorem zhK {x : X} {b : Bool} {ρ : List Slot} (h : ev cf x ρ = some [.val (.bool b)]) : ex cf (.ret x) ρ = some (ρ,.ret (.bool b)) := R_ret (E_of h rfl)
theorem zhc : ∀ (N : Nat) {Q : List Nat},(∀ k ∈ Q,k < 14) → Q.length ≤ 4 → ∀ {R : Nm},R.reverse ∈ U5 → Q.length + R.length ≤ N → ∀ {n : Nat},N + 3 ≤ n → callF fns05 (n + 1) 29 [.str (pat5 Q.reverse),.str (pt R.reverse),.tok 0,.tok 2] = some (.bool (bh Q R))
 | _,[],_,_,R,hR,_,n,_ => by
  refine zdh (fn := fn_law_behind) rfl (ρ := [.val (.str []),.val (.str (pt R.reverse)),.val (.tok 0),.val (.tok 2),.unset,.unset,.unset,.unset]) rfl ?_
  show ∃ ρ',ex (callF fns05 n) s_law_behind _ = _
  unfold s_law_behind
  have e := zb5 em5 hR
  simp only [List.reverse_eq_nil_iff] at e
  exact ⟨_,R_seq (R_ite (t := true) rfl (R_tt (R_seq (zhK (V_op2 rfl rfl e)) zau))) zau⟩
 | 0,k :: Q,_,_,R,_,h,_,_ => by rw [List.length_cons,Nat.succ_add] at h; exact absurd h (Nat.not_succ_le_zero _)
 | N + 1,k :: Q,hQ,hQl,R,hR,hN,n + 2,hn => by
  have hQ' : ∀ k ∈ Q,k < 14 := fun j hj => hQ j (List.mem_cons_of_mem _ hj)
  have hk := hQ k List.mem_cons_self
  have hQr : ∀ k ∈ Q.reverse,k < 14 := fun j hj => hQ' j (List.mem_reverse.mp hj)
  have hN' : Q.length + R.length ≤ N := Nat.le_of_succ_le_succ (by rw [List.length_cons,Nat.succ_add] at hN; exact hN)
  have hn' : N + 3 ≤ n + 1 := Nat.le_of_succ_le_succ (by rw [Nat.succ_add] at hn; exact hn)
  have names : ∀ {P : List Nat},(∀ k ∈ P,k < 14) → ∀ w ∈ P.map tT,NameOK w := fun h w hw => by
   obtain ⟨j,hj,rfl⟩ := List.mem_map.mp hw
   exact name5 j (h j hj)
  have sp1 : callF fns05 (n + 2) 5 [.str (pat5 (k :: Q).reverse)] = some (.tup [.str (pat5 Q.reverse),.str (tT k)]) := by
   have := ziI (fns := fns05) rfl rfl rfl n (names hQr) (name5 k hk) (Nat.lt_of_le_of_lt (txt_len (k := 9) (fun w hw => by
    obtain ⟨j,hj,rfl⟩ := List.mem_map.mp hw
    exact (show ∀ k,k < 14 → (tT k).length ≤ 9 by decide) j (hQr j hj))) (by rw [List.length_map,List.length_reverse]; exact Nat.lt_of_le_of_lt (Nat.mul_le_mul_left 10 (Nat.le_of_succ_le hQl)) (by decide)))
   rw [List.reverse_cons]
   unfold pat5
   rw [List.map_append]; exact this
  have sp2 := zb5 (split5 n) hR
  have ne2 := zb5 em5 hR
  have nn2 := zb5 nem5 hR
  simp only [List.reverse_eq_nil_iff] at ne2 nn2
  have ne : opF .eq [.str (pat5 (k :: Q).reverse),.str []] = some (.val (.bool false)) := (eq_str _ _).trans (by
   rw [decide_eq_false]
   exact txt_ne (fun e => by simp at e) (names fun j hj => hQ j (List.mem_reverse.mp hj)))
  refine zdh (fn := fn_law_behind) rfl (ρ := [.val (.str (pat5 (k :: Q).reverse)),.val (.str (pt R.reverse)),.val (.tok 0),.val (.tok 2),.unset,.unset,.unset,.unset]) rfl ?_
  show ∃ ρ',ex (callF fns05 (n + 2)) s_law_behind _ = _
  unfold s_law_behind
  have d := zb5 dd5 (List.mem_range.mpr hk)
  have ih : ∀ {R : Nm},R.reverse ∈ U5 → Q.length + R.length ≤ N → callF fns05 (n + 2) 29 [.str (pat5 Q.reverse),.str (pt R.reverse),.tok 0,.tok 2] = some (.bool (bh Q R)) := fun h1 h2 => zhc N hQ' (Nat.le_of_succ_le hQl) h1 h2 hn'
  have tail : ∀ {w : List Nat} {R' : Nm},R = w :: R' → R.reverse.dropLast = R'.reverse ∧ lst R.reverse = w ∧ R'.reverse ∈ U5 ∧ w ∈ wd4 := fun {w R'} e => by
   subst e
   have e1 : (w :: R').reverse.dropLast = R'.reverse := by rw [List.reverse_cons,List.dropLast_concat]
   have e2 : lst (w :: R').reverse = w := by rw [List.reverse_cons]; unfold lst; rw [List.getLastD_concat]
   exact ⟨e1,e2,e1 ▸ par5 _ hR,e2 ▸ last5 _ hR (by simp)⟩
  by_cases h13 : k = 13
  ·subst h13
   have ih1 := ih hR hN'
   have rest : ev (callF fns05 (n + 2)) (.and (.op .ne (.cons (.var 1) (.cons (.const (.str [])) .nil))) (.call 29 (.cons (.var 0) (.cons (.var 6) (.cons (.var 2) (.cons (.var 3) .nil)))))) [.val (.str (pat5 (13 :: Q).reverse)),.val (.str (pt R.reverse)),.val (.tok 0),.val (.tok 2),.val (.str (pat5 Q.reverse)),.val (.str (tT 13)),.val (.str (pt R.reverse.dropLast)),.val (.str (lst R.reverse))] = some [.val (.bool (st5 (bh Q) R))] := by
    cases R with
    | nil =>
     rw [decide_eq_true rfl] at nn2
     exact zdZ (V_op2 rfl rfl nn2)
    | cons w R' =>
     obtain ⟨e1,_,h2,_⟩ := tail rfl
     rw [e1]
     rw [decide_eq_false (List.cons_ne_nil _ _)] at nn2
     exact zdY (V_op2 rfl rfl nn2) (za9 rfl rfl (zhc N hQ hQl h2 (by rw [List.length_cons,List.length_cons] at hN; rw [List.length_cons]; omega) hn'))
   have fin : bh (13 :: Q) R = (bh Q R || st5 (bh Q) R) := by
    cases R with
    | nil => exact (Bool.or_false _).symm
    | cons w R' => rfl
   rw [fin]
   refine ⟨_,R_seq (R_ite (t := false) (T_of (V_op2 rfl rfl ne)) (R_ff zax)) (zai (R_seq (za5 (E_of (za9 rfl rfl sp1) rfl) rfl) (zai (R_seq (za5 (E_of (za9 rfl rfl sp2) rfl) rfl) (zai (R_seq (ρ₁ := [.val (.str (pat5 (13 :: Q).reverse)),.val (.str (pt R.reverse)),.val (.tok 0),.val (.tok 2),.val (.str (pat5 Q.reverse)),.val (.str (tT 13)),.val (.str (pt R.reverse.dropLast)),.val (.str (lst R.reverse))]) (o := .ret (.bool (bh Q R || st5 (bh Q) R))) (R_ite (t := true) (T_of (V_op2 rfl rfl d)) (R_tt ?_)) zau))))))⟩
   cases hb : bh Q R with
   | true => exact R_seq (R_ite (t := true) (T_of (za9 rfl rfl (hb ▸ ih1))) (R_tt (R_seq (R_ret rfl) zau))) zau
   | false => exact R_seq (R_ite (t := false) (T_of (za9 rfl rfl (hb ▸ ih1))) (R_ff zax)) (zai (R_seq (zhK rest) zau))
  ·have hk13 : k < 13 := Nat.lt_of_le_of_ne (Nat.le_of_lt_succ hk) h13
   rw [decide_eq_false h13] at d
   rw [zka h13]
   have go : ∀ {res : Option (List Slot × Out)} {a : S},ex (callF fns05 (n + 2)) a [.val (.str (pat5 (k :: Q).reverse)),.val (.str (pt R.reverse)),.val (.tok 0),.val (.tok 2),.val (.str (pat5 Q.reverse)),.val (.str (tT k)),.val (.str (pt R.reverse.dropLast)),.val (.str (lst R.reverse))] = res →
     ∀ {b : S},ex (callF fns05 (n + 2)) (.seq (.ite (.op .eq (.cons (.var 0) (.cons (.const (.str [])) .nil))) (.seq (.ret (.op .eq (.cons (.var 1) (.cons (.const (.str [])) .nil)))) .skip) .skip) (.seq (.assign2 4 5 (.call 5 (.cons (.var 0) .nil))) (.seq (.assign2 6 7 (.call 5 (.cons (.var 1) .nil))) (.seq (.ite (.op .eq (.cons (.var 5) (.cons (.const (.str [42,42])) .nil))) b .skip) a)))) [.val (.str (pat5 (k :: Q).reverse)),.val (.str (pt R.reverse)),.val (.tok 0),.val (.tok 2),.unset,.unset,.unset,.unset] = res := fun h _ =>
    R_seq (R_ite (t := false) (T_of (V_op2 rfl rfl ne)) (R_ff zax)) (zai (R_seq (za5 (E_of (za9 rfl rfl sp1) rfl) rfl) (zai (R_seq (za5 (E_of (za9 rfl rfl sp2) rfl) rfl) (zai (R_seq (R_ite (t := false) (T_of (V_op2 rfl rfl d)) (R_ff zax)) (zai h)))))))
   cases R with
   | nil =>
    rw [decide_eq_true rfl] at ne2
    exact ⟨_,go (R_seq (R_ite (t := true) (T_of (V_op2 rfl rfl ne2)) (R_tt (R_seq (R_ret rfl) zau))) zau)⟩
   | cons w R' =>
    obtain ⟨e1,e2,h2,hw⟩ := tail rfl
    rw [e1,e2] at go
    rw [decide_eq_false (List.cons_ne_nil _ _)] at ne2
    have tr := zli n hk13
    have tk := takes5 n hk13 hw
    refine ⟨_,go (R_seq (R_ite (t := false) (T_of (V_op2 rfl rfl ne2)) (R_ff zax)) (zai (R_seq (zk2 ⟨tT k,⟨rfl,rfl, ?_,rfl,dom5 k hk13⟩,_,za9 rfl rfl tr⟩) (zai (R_seq (zhK (V_and (za9 (zaA (za9 rfl rfl tr) rfl) rfl tk) fun _ => za9 rfl rfl (ih h2 (by rw [List.length_cons] at hN'; exact Nat.le_of_succ_le hN')))) zau)))))⟩
    exact (show callF fns05 (n + 2) 1 [.str [97],.tok 0,.str cp05.qm] = _ from zli n (k := 1) (by decide)) ▸ rfl
end
noncomputable def frB : S := (.seq (.assignO 6 (.list .nil)) (.seq (.forE 2 (.rangeI (.cons (.op .add (.cons (.op .len (.cons (.var 1) .nil)) (.cons (.const (.int 1)) .nil))) .nil)) (.seq (.ite (.op .eq (.cons (.var 4) (.cons (.const (.str [42,42])) .nil))) (.seq (.append 6 (.or (.op .index (.cons (.var 3) (.cons (.var 2) .nil))) (.and (.op .gt (.cons (.var 2) (.cons (.const (.int 0)) .nil))) (.op .index (.cons (.var 6) (.cons (.op .sub (.cons (.var 2) (.cons (.const (.int 1)) .nil))) .nil)))))) .skip) (.seq (.append 6 (.and (.op .gt (.cons (.var 2) (.cons (.const (.int 0)) .nil))) (.and (.op .index (.cons (.var 3) (.cons (.op .sub (.cons (.var 2) (.cons (.const (.int 1)) .nil))) .nil))) (.call 16 (.cons (.var 5) (.cons (.op .index (.cons (.var 1) (.cons (.op .sub (.cons (.var 2) (.cons (.const (.int 1)) .nil))) .nil))) .nil)))))) .skip)) .skip)) (.seq (.seq (.fz 6) (.assign 3 (.var 6))) .skip)))
noncomputable def frI : S := (.seq (.ite (.op .eq (.cons (.var 4) (.cons (.const (.str [42,42])) .nil))) (.seq (.append 6 (.or (.op .index (.cons (.var 3) (.cons (.var 2) .nil))) (.and (.op .gt (.cons (.var 2) (.cons (.const (.int 0)) .nil))) (.op .index (.cons (.var 6) (.cons (.op .sub (.cons (.var 2) (.cons (.const (.int 1)) .nil))) .nil)))))) .skip) (.seq (.append 6 (.and (.op .gt (.cons (.var 2) (.cons (.const (.int 0)) .nil))) (.and (.op .index (.cons (.var 3) (.cons (.op .sub (.cons (.var 2) (.cons (.const (.int 1)) .nil))) .nil))) (.call 16 (.cons (.var 5) (.cons (.op .index (.cons (.var 1) (.cons (.op .sub (.cons (.var 2) (.cons (.const (.int 1)) .nil))) .nil))) .nil)))))) .skip)) .skip)
noncomputable def rv (n : Nm) (c : Nat) : Nm := (n.take c).reverse
noncomputable def cell (P : List Nat) (n : Nm) (c : Nat) : D := .bool (bh P (rv n c))
noncomputable def rowD (P : List Nat) (n : Nm) : List D := (List.range' 0 (n.length + 1)).map (cell P n)
theorem ziR {n : Nm} {c : Nat} (h : c < n.length) : rv n (c + 1) = n.getD c [] :: rv n c := by
 unfold rv
 rw [List.take_succ,List.getElem?_eq_getElem h,List.reverse_append,List.getD_eq_getElem?_getD,List.getElem?_eq_getElem h]
 rfl
section
variable {cf : CfT}
theorem zkv {α : Type} {g : Nat → α} {c m : Nat} (h : c < m) : ((List.range' 0 m).map g)[c]? = some (g c) := by
 rw [List.getElem?_map,List.getElem?_range' h,Nat.zero_add,Nat.one_mul]; rfl
theorem zi7 {P : List Nat} {n : Nm} {c m : Nat} (h : c < m) (hc : c ≤ 1000000) : opF .index [.list ((List.range' 0 m).map (cell P n)),nI c] = some (.val (cell P n c)) := zcl (zkv h) hc
theorem o_gtn {c : Nat} : opF .gt [nI c,.int 0] = some (.val (.bool (decide (0 < c)))) := o_gt0
theorem o_pred {c : Nat} (h : 0 < c) : opF .sub [nI c,.int 1] = some (.val (nI (c - 1))) := by
 show some (R.val (.int ((c : Int) - 1))) = _
 rw [show (1 : Int) = ((1 : Nat) : Int) from rfl, ← Int.ofNat_sub h]; rfl
theorem o_gts {c : Nat} : opF .gt [nI (c + 1),.int 0] = some (.val (.bool true)) := o_gtn.trans (by rw [decide_eq_true (Nat.succ_pos c)])
theorem zi5 {c : Nat} : opF .sub [nI (c + 1),.int 1] = some (.val (nI c)) := o_pred (Nat.succ_pos c)
theorem zk4 (hm : ∀ k w,k < 13 → w ∈ wd4 → cf 16 [mD k,.str w] = some (.bool (mB k w))) {P : List Nat} {n : Nm} (hn : ∀ w ∈ n,w ∈ wd4) (hl : n.length ≤ 3) {k : Nat} (hk : k < 14) {ps : D} {c : Nat} (hc : c < n.length + 1) :
  ex cf frI [.val ps,.val (nD n),.val (nI c),.val (.list (rowD P n)),.val (.str (tT k)),.val (mD k),.own ((List.range' 0 c).map (cell (k :: P) n)),.unset] = some ([.val ps,.val (nD n),.val (nI c),.val (.list (rowD P n)),.val (.str (tT k)),.val (mD k),.own ((List.range' 0 (c + 1)).map (cell (k :: P) n)),.unset],.next) := by
 have hc3 : c ≤ 3 := Nat.le_trans (Nat.le_of_lt_succ hc) hl
 have big : ∀ {x : Nat},x ≤ 3 → x ≤ 1000000 := fun h => Nat.le_trans h (by decide)
 have e : (List.range' 0 (c + 1)).map (cell (k :: P) n) = (List.range' 0 c).map (cell (k :: P) n) ++ [cell (k :: P) n c] := by
  rw [List.range'_concat,List.map_append,Nat.zero_add,Nat.one_mul]; rfl
 have lt : ((List.range' 0 c).map (cell (k :: P) n)).length < lim := by
  rw [List.length_map,List.length_range']; exact Nat.lt_of_le_of_lt hc3 (by decide)
 have d := zb5 dd5 (List.mem_range.mpr hk)
 have own : ownAt [.val ps,.val (nD n),.val (nI c),.val (.list (rowD P n)),.val (.str (tT k)),.val (mD k),.own ((List.range' 0 c).map (cell (k :: P) n)),.unset] 6 = some ((List.range' 0 c).map (cell (k :: P) n)) := rfl
 rw [e]
 unfold frI
 by_cases h13 : k = 13
 ·subst h13
  have v : ev cf (.or (.op .index (.cons (.var 3) (.cons (.var 2) .nil))) (.and (.op .gt (.cons (.var 2) (.cons (.const (.int 0)) .nil))) (.op .index (.cons (.var 6) (.cons (.op .sub (.cons (.var 2) (.cons (.const (.int 1)) .nil))) .nil))))) [.val ps,.val (nD n),.val (nI c),.val (.list (rowD P n)),.val (.str (tT 13)),.val (mD 13),.own ((List.range' 0 c).map (cell (13 :: P) n)),.unset] = some [.val (cell (13 :: P) n c)] := by
   have i1 := zi7 (P := P) (n := n) hc (big hc3)
   cases c with
   | zero => exact (V_or (V_op2 rfl rfl i1) (zdZ (V_op2 rfl rfl o_gtn))).trans (by rw [Bool.or_false]; rfl)
   | succ c =>
    have hcn : c < n.length := Nat.lt_of_succ_lt_succ hc
    have i2 := zi7 (P := 13 :: P) (n := n) (Nat.lt_succ_self c) (big (Nat.le_of_succ_le hc3))
    rw [show cell (13 :: P) n (c + 1) = .bool (bh P (rv n (c + 1)) || bh (13 :: P) (rv n c)) by unfold cell; rw [ziR hcn]; rfl]
    exact V_or (V_op2 rfl rfl i1) (zdY (V_op2 rfl rfl o_gts) (V_op2 rfl (V_op2 rfl rfl zi5) i2))
  exact R_seq (R_ite (t := true) (T_of (V_op2 rfl rfl d)) (R_tt (R_seq (zbc (E_of v rfl) own lt rfl) (zai zax)))) (zai zax)
 ·have hk13 : k < 13 := Nat.lt_of_le_of_ne (Nat.le_of_lt_succ hk) h13
  rw [decide_eq_false h13] at d
  have v : ev cf (.and (.op .gt (.cons (.var 2) (.cons (.const (.int 0)) .nil))) (.and (.op .index (.cons (.var 3) (.cons (.op .sub (.cons (.var 2) (.cons (.const (.int 1)) .nil))) .nil))) (.call 16 (.cons (.var 5) (.cons (.op .index (.cons (.var 1) (.cons (.op .sub (.cons (.var 2) (.cons (.const (.int 1)) .nil))) .nil))) .nil))))) [.val ps,.val (nD n),.val (nI c),.val (.list (rowD P n)),.val (.str (tT k)),.val (mD k),.own ((List.range' 0 c).map (cell (k :: P) n)),.unset] = some [.val (cell (k :: P) n c)] := by
   cases c with
   | zero => exact (zdZ (V_op2 rfl rfl o_gtn)).trans (by unfold cell; rw [zka h13]; rfl)
   | succ c =>
    have hcn : c < n.length := Nat.lt_of_succ_lt_succ hc
    have i1 := zi7 (P := P) (n := n) (Nat.lt_succ_of_lt hcn) (big (Nat.le_of_succ_le hc3))
    have i2 : opF .index [nD n,nI c] = some (.val (.str (n.getD c []))) := zcl (zkb hcn []) (big (Nat.le_of_succ_le hc3))
    have s := zi5 (c := c)
    rw [show cell (k :: P) n (c + 1) = .bool (bh P (rv n c) && mB k (n.getD c [])) by unfold cell; rw [ziR hcn,zka h13,Bool.and_comm]; rfl]
    exact zdY (V_op2 rfl rfl o_gts) (V_and (V_op2 rfl (V_op2 rfl rfl s) i1) fun _ => za9 (zaA rfl (zaA (V_op2 rfl (V_op2 rfl rfl s) i2) rfl)) rfl (hm k _ hk13 (hn _ (zhA hcn []))))
  exact R_seq (R_ite (t := false) (T_of (V_op2 rfl rfl d)) (R_ff (R_seq (zbc (E_of v rfl) own lt rfl) (zai zax)))) (zai zax)
theorem zjJ (hm : ∀ k w,k < 13 → w ∈ wd4 → cf 16 [mD k,.str w] = some (.bool (mB k w))) {n : Nm} (hn : ∀ w ∈ n,w ∈ wd4) (hl : n.length ≤ 3) {ps : D} : ∀ {Ps P : List Nat} {x2 x4 x5 x6 : Slot},(∀ k ∈ Ps,k < 14) → appOK 6 x2 = true → appOK 6 x4 = true → appOK 6 x5 = true → appOK 6 x6 = true →
  ∃ y2 y4 y5 y6,forGo (put2 4 5) (ex cf frB) (Ps.map pcD) [.val ps,.val (nD n),x2,.val (.list (rowD P n)),x4,x5,x6,.unset] = some ([.val ps,.val (nD n),y2,.val (.list (rowD (Ps.reverse ++ P) n)),y4,y5,y6,.unset],.next)
 | [],P,x2,x4,x5,x6,_,_,_,_,_ => ⟨x2,x4,x5,x6,rfl⟩
 | k :: Ps,P,x2,x4,x5,x6,hP,a2,a4,a5,a6 => by
  have hk := hP k List.mem_cons_self
  have lenE : opF .add [nI n.length,.int 1] = some (.val (nI (n.length + 1))) := rfl
  have lp : ∃ y2,forGo (put1 2) (ex cf frI) ((List.range' 0 (n.length + 1)).map nI) [.val ps,.val (nD n),x2,.val (.list (rowD P n)),.val (.str (tT k)),.val (mD k),.own [],.unset] = some ([.val ps,.val (nD n),y2,.val (.list (rowD P n)),.val (.str (tT k)),.val (mD k),.own (rowD (k :: P) n),.unset],.next) ∧ appOK 6 y2 = true := by
   obtain ⟨_,e,y2,rfl,hy⟩ := zco (cf := cf) (i := 2) (b := frI) (I := fun c ρ => ∃ y2,ρ = [.val ps,.val (nD n),y2,.val (.list (rowD P n)),.val (.str (tT k)),.val (mD k),.own ((List.range' 0 c).map (cell (k :: P) n)),.unset] ∧ appOK 6 y2 = true) (a := 0) (m := n.length + 1) (ρ := [.val ps,.val (nD n),x2,.val (.list (rowD P n)),.val (.str (tT k)),.val (mD k),.own [],.unset]) ⟨x2,rfl,a2⟩ fun c ρ _ hc J => by
    obtain ⟨y2,rfl,_⟩ := J
    rw [Nat.zero_add] at hc
    exact ⟨_,.next,zk4 hm hn hl hk hc,.inl rfl,_,rfl,rfl⟩
   rw [Nat.zero_add] at e
   exact ⟨y2,e,hy⟩
  obtain ⟨y2,lp,b2⟩ := lp
  have body : ex cf frB [.val ps,.val (nD n),x2,.val (.list (rowD P n)),.val (.str (tT k)),.val (mD k),x6,.unset] = some ([.val ps,.val (nD n),y2,.val (.list (rowD (k :: P) n)),.val (.str (tT k)),.val (mD k),.val (.list (rowD (k :: P) n)),.unset],.next) := by
   have na : noApp 6 [.val ps,.val (nD n),x2,.val (.list (rowD P n)),.val (.str (tT k)),.val (mD k),x6,.unset] = true := by
    rw [zbH]
    simp only [List.all_cons,List.all_nil,a2,a6,zbD,zaU,Bool.and_true]
   unfold frI at lp
   unfold frB
   exact R_seq (za4 na (l := []) rfl rfl) (zai (R_seq (R_for (I_of (zcc (zaA (V_op2 (V_op1 rfl zhr) rfl lenE) rfl) (zbe (Nat.le_trans (Nat.succ_le_succ hl) (by decide))))) lp) (zai (R_seq (R_seq (R_fz (l := rowD (k :: P) n) rfl rfl) (zai (zam rfl rfl))) (zai zax)))))
  obtain ⟨z2,z4,z5,z6,e⟩ := zjJ hm hn hl (ps := ps) (Ps := Ps) (P := k :: P) (x2 := y2) (x4 := .val (.str (tT k))) (x5 := .val (mD k)) (x6 := .val (.list (rowD (k :: P) n))) (fun j hj => hP j (List.mem_cons_of_mem _ hj)) b2 rfl rfl rfl
  rw [List.reverse_cons,List.append_assoc]
  exact ⟨z2,z4,z5,z6,zaO (st := put2 4 5) zgM body (zbx e)⟩
end
theorem front5 (m : Nat) {P : List Nat} (hP : ∀ k ∈ P,k < 14) {n : Nm} (hn : ∀ w ∈ n,w ∈ wd4) (hl : n.length ≤ 3) : callF fns05 (m + 6) 30 [.list (P.map pcD),nD n] = some (.bool (bh P.reverse n.reverse)) := by
 refine zdh (fn := fn_law_front) rfl (ρ := [.val (.list (P.map pcD)),.val (nD n),.unset,.unset,.unset,.unset,.unset,.unset]) rfl ?_
 show ∃ ρ',ex (callF fns05 (m + 5)) s_law_front _ = _
 obtain ⟨z2,z4,z5,z6,e⟩ := zjJ (cf := callF fns05 (m + 5)) (fun k w hk hw => means5 m hk hw) hn hl (ps := .list (P.map pcD)) (Ps := P) (P := []) (x2 := .unset) (x4 := .unset) (x5 := .unset) (x6 := .unset) hP rfl rfl rfl rfl
 rw [List.append_nil] at e
 have lenE : opF .add [nI n.length,.int 1] = some (.val (nI (n.length + 1))) := rfl
 have a3 : ev1 (callF fns05 (m + 5)) (.comp 7 (.rangeI (.cons (.op .add (.cons (.op .len (.cons (.var 1) .nil)) (.cons (.const (.int 1)) .nil))) .nil)) (.const (.bool true)) (.op .eq (.cons (.var 7) (.cons (.const (.int 0)) .nil)))) [.val (.list (P.map pcD)),.val (nD n),.unset,.unset,.unset,.unset,.unset,.unset] = some (.list (rowD [] n)) := by
  refine E_of (zeu (g := nI) (v := cell [] n) (zcc (zaA (V_op2 (V_op1 rfl zhr) rfl lenE) rfl) (zbe (Nat.le_trans (Nat.succ_le_succ hl) (by decide)))) fun c hc => ⟨_,V_op2 rfl rfl o_eqi, ?_⟩) rfl
  have hc := (List.mem_range'_1.mp hc).2
  rw [Nat.zero_add] at hc
  show some (D.bool (decide ((c : Int) = 0))) = some (D.bool (decide ((n.take c).reverse = [])))
  refine congrArg (fun b => some (D.bool b)) (decide_eq_decide.mpr ?_)
  rw [List.reverse_eq_nil_iff,List.take_eq_nil_iff]
  constructor
  ·intro h; exact .inl (Int.ofNat.inj h)
  ·rintro (h | h)
   ·rw [h]; rfl
   ·rw [h] at hc; rw [Nat.lt_one_iff.mp hc]; rfl
 have lst : opF .index [.list (rowD P.reverse n),.int (-1)] = some (.val (.bool (bh P.reverse n.reverse))) := by
  have e : rowD P.reverse n = (List.range' 0 n.length).map (cell P.reverse n) ++ [cell P.reverse n n.length] := by
   unfold rowD
   rw [List.range'_concat,List.map_append,Nat.zero_add,Nat.one_mul]; rfl
  rw [e,o_last]
  unfold cell rv
  rw [List.take_length]
 unfold frB at e
 unfold s_law_front
 exact ⟨_,R_seq (zam a3 rfl) (zai (R_seq (zlD (I_of (zdg rfl rfl rfl)) e) (zai (R_seq (zhK (V_op2 rfl rfl lst)) zau))))⟩
noncomputable def trB : S := (.seq (.assign 3 (.op .add (.cons (.op .abs (.cons (.op .index (.cons (.var 0) (.cons (.var 2) .nil))) .nil)) (.cons (.op .index (.cons (.tup (.cons (.const (.int 0)) (.cons (.const (.int 7)) (.cons (.const (.int 44)) (.cons (.const (.int 83)) (.cons (.const (.int 122)) (.cons (.const (.int 190)) .nil))))))) (.cons (.var 2) .nil))) .nil)))) (.seq (.assign 4 (.const (.str []))) (.seq (.forE 5 (.rangeI (.cons (.op .add (.cons (.const (.int 1)) (.cons (.op .mod (.cons (.var 3) (.cons (.const (.int 3)) .nil))) .nil))) .nil)) (.seq (.assign 3 (.op .fdiv (.cons (.var 3) (.cons (.const (.int 3)) .nil)))) (.seq (.assign 4 (.call 4 (.cons (.var 4) (.cons (.op .index (.cons (.tup (.cons (.const (.str [97])) (.cons (.const (.str [98])) (.cons (.const (.str [46,97])) (.cons (.const (.str [97,98])) .nil))))) (.cons (.op .mod (.cons (.var 3) (.cons (.const (.int 4)) .nil))) .nil))) .nil)))) (.seq (.ite (.op .notin (.cons (.var 4) (.cons (.var 1) .nil))) (.seq (.append 1 (.var 4)) .skip) .skip) .skip)))) .skip)))
noncomputable def trI : S := (.seq (.assign 3 (.op .fdiv (.cons (.var 3) (.cons (.const (.int 3)) .nil)))) (.seq (.assign 4 (.call 4 (.cons (.var 4) (.cons (.op .index (.cons (.tup (.cons (.const (.str [97])) (.cons (.const (.str [98])) (.cons (.const (.str [46,97])) (.cons (.const (.str [97,98])) .nil))))) (.cons (.op .mod (.cons (.var 3) (.cons (.const (.int 4)) .nil))) .nil))) .nil)))) (.seq (.ite (.op .notin (.cons (.var 4) (.cons (.var 1) .nil))) (.seq (.append 1 (.var 4)) .skip) .skip) .skip)))
noncomputable def tp (T : List Nm) : List D := (T.map pt).map .str
theorem two5 : ∀ n ∈ U5,n.length ≤ 2 → n ∈ V5 := by decide +kernel
theorem mem5 {n : Nm} (h : n ∈ E5) : n ∈ U5 := List.mem_cons_of_mem _ h
section
variable {cf : CfT}
theorem V_o {ρ : List Slot} {i : Nat} {x : Slot} {l : List D} (e : ρ[i]? = some x) (h : x = .own l) (hd : dSlot i = false) : ev cf (.var i) ρ = some [.bor l] := by
 rw [zbu,e,h]
 exact if_neg (by rw [hd]; exact Bool.false_ne_true)
theorem o_notin {t : List Nat} {P : List (List Nat)} : ∃ b,opF .notin [.str t,.list (P.map .str)] = some (.val (.bool b)) := by
 refine ⟨!P.any fun a => decide (a = t), ?_⟩
 show ((inD (.str t) (.list (P.map .str))).map (!·)).map (fun x => R.val (.bool x)) = _
 rw [in_map (f := D.str) (P := fun a => decide (a = t)) (fun _ => rfl) rfl fun _ => zjY]; rfl
theorem zlp {S : List Nat} {k : Nat} (h : k < S.length) (hk : k ≤ 1000000) : opF .index [.list (S.map nI),nI k] = some (.val (nI (S.getD k 0))) := zcl (zkb h 0) hk
set_option genInjectivity false in
structure TJ (T : List Nm) (m : Nat) (n : Nm) (c : Nat) : Prop where
 hT : ∀ p ∈ T,p ∈ E5
 hl : T.length ≤ m
 hn : n ∈ U5
 hc : n.length = c
theorem tr_turn (hj : ∀ n ∈ V5, ∀ w ∈ wd4,cf 4 [.str (pt n),.str w] = some (.str (pt (n ++ [w])))) {sm : D} {T : List Nm} {n : Nm} {k left m c : Nat} {x5 : Slot} (J : TJ T m n c) (hm : m ≤ 100) (h2 : c ≤ 2) :
  ∃ T' n' left',ex cf trI [.val sm,.own (tp ([] :: T)),.val (nI k),.val (nI left),.val (.str (pt n)),x5] = some ([.val sm,.own (tp ([] :: T')),.val (nI k),.val (nI left'),.val (.str (pt n')),x5],.next) ∧ TJ T' (m + 1) n' (c + 1) := by
 obtain ⟨hT,hl,hn,rfl⟩ := J
 have hlt : left / 3 % 4 < 4 := Nat.mod_lt _ (by decide)
 let w := wd4.getD (left / 3 % 4) []
 have hw : w ∈ wd4 := zhA hlt []
 have hV := two5 n hn h2
 have hE : n ++ [w] ∈ E5 := snoc5 n hV w hw
 have hc' : (n ++ [w]).length = n.length + 1 := List.length_append
 have a4 : ev1 cf (.call 4 (.cons (.var 4) (.cons (.op .index (.cons (.tup (.cons (.const (.str [97])) (.cons (.const (.str [98])) (.cons (.const (.str [46,97])) (.cons (.const (.str [97,98])) .nil))))) (.cons (.op .mod (.cons (.var 3) (.cons (.const (.int 4)) .nil))) .nil))) .nil))) [.val sm,.own (tp ([] :: T)),.val (nI k),.val (nI (left / 3)),.val (.str (pt n)),x5] = some (.str (pt (n ++ [w]))) :=
  E_of (za9 (zaA rfl (zaA (V_op2 (a := .val (.tup (wd4.map D.str))) rfl (V_op2 rfl rfl (o_mod (k := 4) (by decide))) (zfn (zkb (l := wd4) hlt []) (Nat.le_trans (Nat.le_of_lt hlt) (by decide)))) rfl)) rfl (hj n hV w hw)) rfl
 obtain ⟨b,nt⟩ := o_notin (t := pt (n ++ [w])) (P := ([] :: T).map pt)
 have c4 : evT cf (.op .notin (.cons (.var 4) (.cons (.var 1) .nil))) [.val sm,.own (tp ([] :: T)),.val (nI k),.val (nI (left / 3)),.val (.str (pt (n ++ [w]))),x5] = some b := T_of (V_op2 rfl (V_o (i := 1) rfl rfl rfl) nt)
 have a3 : ev1 cf (.op .fdiv (.cons (.var 3) (.cons (.const (.int 3)) .nil))) [.val sm,.own (tp ([] :: T)),.val (nI k),.val (nI left),.val (.str (pt n)),x5] = some (nI (left / 3)) := E_of (V_op2 rfl rfl (o_div (k := 3) (by decide))) rfl
 unfold trI
 cases b with
 | false => exact ⟨T,n ++ [w],left / 3,R_seq (zam a3 rfl) (zai (R_seq (zam a4 rfl) (zai (R_seq (R_ite c4 (R_ff zax)) (zai zax))))),hT,Nat.le_succ_of_le hl,mem5 hE,hc'⟩
 | true =>
  refine ⟨T ++ [n ++ [w]],n ++ [w],left / 3,R_seq (zam a3 rfl) (zai (R_seq (zam a4 rfl) (zai (R_seq (R_ite c4 (R_tt (R_seq (zbc (l := tp ([] :: T)) rfl rfl ?_ ?_) (zai zax)))) (zai zax))))),fun p hp => ?_, ?_,mem5 hE,hc'⟩
  ·unfold tp
   rw [List.length_map,List.length_map]
   exact Nat.lt_of_le_of_lt (Nat.succ_le_succ (Nat.le_trans hl hm)) (by decide)
  ·have e : tp ([] :: (T ++ [n ++ [w]])) = tp ([] :: T) ++ [.str (pt (n ++ [w]))] := by
    unfold tp
    rw [← List.cons_append,List.map_append,List.map_append]; rfl
   rw [e]; rfl
  ·rcases List.mem_append.mp hp with hp | hp
   ·exact hT p hp
   ·rw [List.mem_singleton.mp hp]; exact hE
  ·rw [List.length_append]; exact Nat.succ_le_succ hl
theorem tr_path (hj : ∀ n ∈ V5, ∀ w ∈ wd4,cf 4 [.str (pt n),.str w] = some (.str (pt (n ++ [w])))) {L : List Nat} (hL : L.length = 4) {T : List Nm} {k m : Nat} (hk : k < 4) (hT : ∀ p ∈ T,p ∈ E5) (hl : T.length ≤ m) (hm : m ≤ 90) {x3 x4 x5 : Slot} :
  ∃ T' y3 y4 y5,ex cf trB [.val (.list (L.map nI)),.own (tp ([] :: T)),.val (nI k),x3,x4,x5] = some ([.val (.list (L.map nI)),.own (tp ([] :: T')),.val (nI k),y3,y4,y5],.next) ∧ (∀ p ∈ T',p ∈ E5) ∧ T'.length ≤ m + 3 := by
 let v : Nat := L.getD k 0 + ([0,7,44,83,122,190] : List Nat).getD k 0
 have hk6 : k ≤ 1000000 := Nat.le_trans (Nat.le_of_lt hk) (by decide)
 have i2 := ziB (l := [0,7,44,83,122,190]) (k := k) (Nat.lt_trans hk (by decide)) hk6
 have a3 : ev1 cf (.op .add (.cons (.op .abs (.cons (.op .index (.cons (.var 0) (.cons (.var 2) .nil))) .nil)) (.cons (.op .index (.cons (.tup (.cons (.const (.int 0)) (.cons (.const (.int 7)) (.cons (.const (.int 44)) (.cons (.const (.int 83)) (.cons (.const (.int 122)) (.cons (.const (.int 190)) .nil))))))) (.cons (.var 2) .nil))) .nil))) [.val (.list (L.map nI)),.own (tp ([] :: T)),.val (nI k),x3,x4,x5] = some (nI v) :=
  E_of (V_op2 (V_op1 (V_op2 rfl rfl (zlp (by rw [hL]; exact hk) hk6)) rfl) (V_op2 (a := .val (.tup (([0,7,44,83,122,190] : List Nat).map fun (n : Nat) => .int (n : Int)))) rfl rfl i2) (zee (a := L.getD k 0))) rfl
 have hv : 1 + v % 3 ≤ 3 := Nat.add_le_add_left (Nat.le_of_lt_succ (Nat.mod_lt v (show 0 < 3 by decide))) 1
 have it : evI cf (.rangeI (.cons (.op .add (.cons (.const (.int 1)) (.cons (.op .mod (.cons (.var 3) (.cons (.const (.int 3)) .nil))) .nil))) .nil)) [.val (.list (L.map nI)),.own (tp ([] :: T)),.val (nI k),.val (nI v),.val (.str (pt [])),x5] = some ((List.range' 0 (1 + v % 3)).map nI) :=
  I_of (zcc (zaA (V_op2 rfl (V_op2 rfl rfl (o_mod (k := 3) (by decide))) (zee (a := 1))) rfl) (zbe (Nat.le_trans hv (by decide))))
 obtain ⟨_,e,T',n',left',x5',rfl,J⟩ := zco (cf := cf) (i := 5) (b := trI) (I := fun c ρ => ∃ T' n' left' x5,ρ = [.val (.list (L.map nI)),.own (tp ([] :: T')),.val (nI k),.val (nI left'),.val (.str (pt n')),x5] ∧ TJ T' (m + c) n' c) (a := 0) (m := 1 + v % 3) (ρ := [.val (.list (L.map nI)),.own (tp ([] :: T)),.val (nI k),.val (nI v),.val (.str (pt [])),x5]) ⟨T,[],v,x5,rfl,hT,hl,List.mem_cons_self,rfl⟩ fun c ρ _ hc I => by
  obtain ⟨T1,n1,left1,x1,rfl,J⟩ := I
  rw [Nat.zero_add] at hc
  have hc3 : c < 3 := Nat.lt_of_lt_of_le hc hv
  obtain ⟨T2,n2,left2,e,J2⟩ := tr_turn hj (sm := .list (L.map nI)) (k := k) (left := left1) (x5 := .val (nI c)) J (Nat.le_trans (Nat.add_le_add hm (Nat.le_of_lt hc3)) (by decide)) (Nat.le_of_lt_succ hc3)
  exact ⟨_,.next,e,.inl rfl,T2,n2,left2,_,rfl,J2⟩
 refine ⟨T',.val (nI left'),.val (.str (pt n')),x5', ?_,J.hT,Nat.le_trans J.hl (Nat.add_le_add_left (by rw [Nat.zero_add]; exact hv) m)⟩
 unfold trI at e
 unfold trB
 exact R_seq (zam a3 rfl) (zai (R_seq (zam (d := .str (pt [])) rfl rfl) (zai (R_seq (R_for it e) (zai zax)))))
end
theorem tree5 (m : Nat) {L : List Nat} (hL : L.length = 4) : ∃ T : List Nm,callF fns05 (m + 3) 28 [.list (L.map nI)] = some (.list (tp ([] :: T))) ∧ (∀ p ∈ T,p ∈ E5) ∧ T.length ≤ 12 := by
 have hj : ∀ n ∈ V5, ∀ w ∈ wd4,callF fns05 (m + 2) 4 [.str (pt n),.str w] = some (.str (pt (n ++ [w]))) := fun n hn w hw => zb5 (zb5 (join5 m) hn) hw
 obtain ⟨_,e,T,x2,x3,x4,x5,rfl,hT,hl⟩ := zco (cf := callF fns05 (m + 2)) (i := 2) (b := trB) (I := fun k ρ => ∃ T x2 x3 x4 x5,ρ = [.val (.list (L.map nI)),.own (tp ([] :: T)),x2,x3,x4,x5] ∧ (∀ p ∈ T,p ∈ E5) ∧ T.length ≤ 3 * k) (a := 0) (m := 4) (ρ := [.val (.list (L.map nI)),.own (tp ([] :: [])),.unset,.unset,.unset,.unset]) ⟨[],_,_,_,_,rfl,(fun _ h => nomatch h),Nat.le_refl _⟩ fun k ρ _ hk I => by
  obtain ⟨T,x2,x3,x4,x5,rfl,hT,hl⟩ := I
  rw [Nat.zero_add] at hk
  obtain ⟨T',y3,y4,y5,e,h1,h2⟩ := tr_path hj hL hk hT hl (Nat.le_trans (Nat.mul_le_mul_left 3 (Nat.le_of_lt hk)) (by decide))
  exact ⟨_,.next,e,.inl rfl,T',_,_,_,_,rfl,h1,h2⟩
 refine ⟨T,zdh (fn := fn_law_tree) rfl (ρ := [.val (.list (L.map nI)),.unset,.unset,.unset,.unset,.unset]) rfl ?_,hT,hl⟩
 show ∃ ρ',ex (callF fns05 (m + 2)) s_law_tree _ = _
 unfold trB at e
 unfold s_law_tree
 have it : evI (callF fns05 (m + 2)) (.rangeI (.cons (.op .len (.cons (.var 0) .nil)) .nil)) [.val (.list (L.map nI)),.own (tp ([] :: [])),.unset,.unset,.unset,.unset] = some ((List.range' 0 4).map nI) := by
  rw [← hL]
  exact I_of (zcc (zaA (V_op1 rfl zhr) rfl) (zbe (by rw [hL]; decide)))
 exact ⟨_,R_seq (za4 rfl (l := tp ([] :: [])) rfl rfl) (zai (R_seq (R_for it e) (zai (R_seq (R_seq (R_fz (l := tp ([] :: T)) rfl rfl) (zai (R_ret rfl))) zau))))⟩
end Mine
end
section
open PySem PySem.StrLaws PySem.Builtin PySem.Builtin.Str
namespace Mine
noncomputable def sp (l : List Nat) : List (List Nat) := (Txt.split ⟨l.toArray⟩ ⟨[47].toArray⟩).map (·.cps.toList)
theorem sp_ne (l : List Nat) : sp l ≠ [] := by
 intro h
 have h' : Txt.split ⟨l.toArray⟩ ⟨[47].toArray⟩ = [] := List.map_eq_nil_iff.mp h
 unfold Txt.split at h'
 split at h'
 ·injection h'
 ·split at h'
  ·injection h'
  ·rw [partsBetween_eq] at h'
   obtain ⟨p,r,e⟩ := partsFrom_ne ⟨l.toArray⟩ (PySem.Str.mk [47].toArray).length 0 (occurrences ⟨l.toArray⟩ ⟨[47].toArray⟩ 0 (PySem.Str.mk l.toArray).length ((PySem.Str.mk l.toArray).length + 1))
   rw [e] at h'; injection h'
theorem sp_free {l : List Nat} : ∀ p ∈ sp l,47 ∉ p := by
 intro p hp
 obtain ⟨q,hq,rfl⟩ := List.mem_map.mp hp
 exact split_free ⟨l.toArray⟩ 47 q hq
theorem zf8 : ∀ ps : List PySem.Str,(PySem.Str.join ⟨[47].toArray⟩ ps).cps.toList = joinL [47] (ps.map (·.cps.toList))
 | [] => rfl
 | [x] => rfl
 | x :: y :: r => by
  have ih := zf8 (y :: r)
  show ((x ++ ⟨[47].toArray⟩ ++ PySem.Str.join ⟨[47].toArray⟩ (y :: r) : PySem.Str)).cps.toList = x.cps.toList ++ [47] ++ joinL [47] ((y :: r).map (·.cps.toList))
  rw [← ih]
  show (x.cps ++ [47].toArray ++ (PySem.Str.join ⟨[47].toArray⟩ (y :: r)).cps).toList = _
  simp
theorem zkm (l : List Nat) : joinL [47] (sp l) = l := by
 have := zf8 (Txt.split ⟨l.toArray⟩ ⟨[47].toArray⟩)
 rw [join_split] at this
 exact this.symm
theorem zgY {s a b : List Nat} {r : List (List Nat)} : joinL s (a :: b :: r) = a ++ s ++ joinL s (b :: r) := rfl
theorem zk1 {a a' : List Nat} {u v : List Nat} (h : 47 ∉ a) (h' : 47 ∉ a') (e : a ++ 47 :: u = a' ++ 47 :: v) : a = a' ∧ u = v := by
 induction a generalizing a' with
 | nil =>
  cases a' with
  | nil => simp at e; exact ⟨rfl,e⟩
  | cons c a' => simp at e; exact absurd e.1 (by intro q; exact h' (by rw [← q]; simp))
 | cons c a ih =>
  cases a' with
  | nil => simp at e; exact absurd e.1 (by intro q; exact h (by rw [q]; simp))
  | cons d a' =>
   simp at e
   obtain ⟨x,y⟩ := ih (fun q => h (List.mem_cons_of_mem _ q)) (fun q => h' (List.mem_cons_of_mem _ q)) e.2
   exact ⟨by rw [e.1,x],y⟩
theorem zga : ∀ {a b : List (List Nat)},a ≠ [] → b ≠ [] → (∀ w ∈ a,47 ∉ w) → (∀ w ∈ b,47 ∉ w) → joinL [47] a = joinL [47] b → a = b
 | [],_,h,_,_,_,_ => absurd rfl h
 | _ :: _,[],_,h,_,_,_ => absurd rfl h
 | [x],[y],_,_,_,_,e => by rw [show x = y from e]
 | [x],y :: z :: r,_,_,h1,_,e => by
  exfalso
  have : x = y ++ [47] ++ joinL [47] (z :: r) := e
  exact h1 x (by simp) (by rw [this]; simp)
 | x :: z :: r,[y],_,_,_,h2,e => by
  exfalso
  have : x ++ [47] ++ joinL [47] (z :: r) = y := e
  exact h2 y (by simp) (by rw [← this]; simp)
 | x :: z :: r,y :: w :: t,_,_,h1,h2,e => by
  have e' : x ++ 47 :: joinL [47] (z :: r) = y ++ 47 :: joinL [47] (w :: t) := by
   have e2 : x ++ [47] ++ joinL [47] (z :: r) = y ++ [47] ++ joinL [47] (w :: t) := e
   simpa using e2
  obtain ⟨a,b⟩ := zk1 (h1 x (by simp)) (h2 y (by simp)) e'
  rw [a,zga (by simp) (by simp) (fun w hw => h1 w (List.mem_cons_of_mem _ hw)) (fun w hw => h2 w (List.mem_cons_of_mem _ hw)) b]
theorem sp_of {ns : List (List Nat)} (h0 : ns ≠ []) (h : ∀ w ∈ ns,47 ∉ w) : sp (joinL [47] ns) = ns := zga (sp_ne _) h0 sp_free h (zkm _)
theorem o_split {l : List Nat} (h : l.length + 2 ≤ lim) : opF .split [.str l,.str [47]] = some (.own ((sp l).map .str)) := by
 show (if ([47] : List Nat).length = 1 ∧ l.length + 2 ≤ lim then some (R.own ((Txt.split ⟨l.toArray⟩ ⟨[47].toArray⟩).map fun x => .str x.cps.toList)) else none) = _
 rw [if_pos ⟨rfl,h⟩]
 unfold sp
 rw [List.map_map]; rfl
theorem zdQ : ∀ ls : List (List Nat),toStrs (ls.map .str) = some ls
 | [] => rfl
 | l :: ls => by
  rw [List.map_cons]
  unfold toStrs
  rw [zdQ ls]; rfl
theorem zi6 {ls : List (List Nat)} (h : (joinL [47] ls).length ≤ lim) : opF .join [.str [47],.list (ls.map .str)] = some (.val (.str (joinL [47] ls))) := by
 show (match toStrs (ls.map .str) with
  | some ls => if (joinL [47] ls).length ≤ lim then some (R.val (.str (joinL [47] ls))) else none
  | none => none) = _
 rw [zdQ]
 simp only
 rw [if_pos h]
set_option genInjectivity false in
structure Clean (w : List Nat) : Prop where
 ne : w ≠ []
 sl : 47 ∉ w
 d1 : w ≠ [46]
 d2 : w ≠ [46,46]
noncomputable def told (ns : List (List Nat)) : List Nat := 47 :: joinL [47] ns
theorem Clean.nm {w : List Nat} (h : Clean w) : NameOK w := ⟨h.ne,h.sl⟩
theorem zib {ns : List (List Nat)} (h : ∀ w ∈ ns,NameOK w) : (joinL [47] ns).head? ≠ some 47 := by
 intro q
 match ns with
 | [] => injection q
 | [x] => exact (h x (by simp)).2 (List.mem_of_head? q)
 | x :: y :: r =>
  obtain ⟨h0,h1⟩ := h x (by simp)
  cases x with
  | nil => exact h0 rfl
  | cons c x => (injection q with q; subst q); exact h1 (by simp)
section
variable {fns : Nat → Option Fn}
end
noncomputable abbrev Nms := List (List Nat)
noncomputable def cp : Nms → Nms → Nms
 | x :: a,y :: b => if x = y then x :: cp a b else []
 | _,_ => []
theorem zep {x y : List Nat} {a b : Nms} : cp (x :: a) (y :: b) = if x = y then x :: cp a b else [] := rfl
theorem cp_nil {a : Nms} : cp a [] = [] := by cases a <;> rfl
theorem zlB : ∀ a b : Nms,(cp a b).length ≤ a.length
 | [],_ => Nat.le_refl _
 | _ :: _,[] => Nat.zero_le _
 | x :: a,y :: b => by
  rw [zep]
  split
  ·exact Nat.succ_le_succ (zlB a b)
  ·exact Nat.zero_le _
theorem ltL_irr {a : List Nat} : ltL a a = false := decide_eq_false (List.lt_irrefl a)
theorem zjs {a b : List Nat} (h : ltL a b = false) (h2 : ltL b a = false) : a = b := by
 have h1 : ¬ a < b := of_decide_eq_false h
 have h2 : ¬ b < a := of_decide_eq_false h2
 exact List.le_antisymm (List.not_lt.mp h2) (List.not_lt.mp h1)
theorem zeh {x y : List Nat} {a b : Nms} : ltSs (x :: a) (y :: b) = if x = y then ltSs a b else ltL x y := by rw [ltSs]
theorem zjq : ∀ a : Nms,ltSs a a = false
 | [] => by rw [ltSs]
 | x :: a => by rw [zeh,if_pos rfl,zjq a]
theorem zjp : ∀ {a b : Nms},ltSs a b = false → ltSs b a = false → a = b
 | [],[],_,_ => rfl
 | [],_ :: _,h,_ => by rw [ltSs] at h; injection h
 | _ :: _,[],_,h => by rw [ltSs] at h; injection h
 | x :: a,y :: b,h,h2 => by
  rw [zeh] at h h2
  by_cases e : x = y
  ·rw [if_pos e] at h
   rw [if_pos e.symm] at h2
   rw [e,zjp h h2]
  ·rw [if_neg e] at h
   rw [if_neg fun q => e q.symm] at h2
   exact absurd (zjs h h2) e
theorem zlx {a b : Nms} : ltD (nD a) (nD b) = some (ltSs a b) := by
 show (match toStrs (a.map .str),toStrs (b.map .str) with | some x,some y => some (ltSs x y) | _,_ => none) = _
 rw [zdQ,zdQ]
theorem o_dropN {l : List D} {n : Nat} (h : n ≤ 1000000) (hl : n ≤ l.length) : opF .slice [.list l,.int (n : Int),.none] = some (.own (l.drop n)) := by
 have e : bound (.int (n : Int)) 0 l.length = some (clip (n : Int) l.length) := by
  show (if small (n : Int) = true then some (clip (n : Int) l.length) else none) = _
  rw [if_pos (zaZ h)]
 show (match bound (.int (n : Int)) 0 l.length,bound .none l.length l.length with
  | some lo,some hi => some (R.own (cut l lo hi))
  | _,_ => none) = _
 rw [e]
 show some (R.own (cut l (clip (n : Int) l.length) l.length)) = _
 rw [zcE hl]
 unfold cut
 rw [List.take_of_length_le (by rw [List.length_drop]; exact Nat.le_refl _)]
section
variable {cf : CfT} {x0 x3 x4 : Slot}
end
section
variable {fns : Nat → Option Fn}
end
theorem zem : ∀ (ns : Nms) (k : Nat),(∀ w ∈ ns,w.length ≤ k) → (joinL [47] ns).length ≤ (k + 1) * ns.length
 | [],_,_ => Nat.zero_le _
 | [x],k,h => Nat.le_trans (Nat.le_succ_of_le (h x List.mem_cons_self)) (Nat.le_of_eq (Nat.mul_one _).symm)
 | x :: y :: r,k,h => by
  have h1 := h x List.mem_cons_self
  have h2 := zem (y :: r) k fun w hw => h w (List.mem_cons_of_mem _ hw)
  rw [zgY,List.length_cons (a := x),Nat.mul_succ,List.length_append,List.length_append,Nat.add_comm]
  exact Nat.add_le_add h2 (Nat.succ_le_succ h1)
section
variable {fns : Nat → Option Fn}
end
theorem zjr {a b c : List Nat} (h : ltL a b = true) (h2 : ltL b c = true) : ltL a c = true := decide_eq_true (List.lt_trans (of_decide_eq_true h) (of_decide_eq_true h2))
theorem lt_trans : ∀ {a b c : Nms},ltSs a b = true → ltSs b c = true → ltSs a c = true
 | _,[],[],_,h => by rw [ltSs] at h; injection h
 | _,_ :: _,[],_,h => by rw [ltSs] at h; injection h
 | [],[],_,h,_ => by rw [ltSs] at h; injection h
 | _ :: _,[],_,h,_ => by rw [ltSs] at h; injection h
 | [],_,_ :: _,_,_ => by rw [ltSs]
 | x :: a,y :: b,z :: c,h,h2 => by
  rw [zeh] at h h2 ⊢
  by_cases e : x = y
  ·subst e
   rw [if_pos rfl] at h
   by_cases e2 : x = z
   ·rw [if_pos e2] at h2 ⊢
    exact lt_trans h h2
   ·rw [if_neg e2] at h2 ⊢
    exact h2
  ·rw [if_neg e] at h
   by_cases e2 : y = z
   ·subst e2
    rw [if_neg e]
    exact h
   ·rw [if_neg e2] at h2
    have := zjr h h2
    rw [if_neg fun e3 => by rw [e3,ltL_irr] at this; injection this]
    exact this
set_option genInjectivity false in
structure Ord {α : Type} (f : α → D) (lt : α → α → Bool) (better : D → D → Option Bool) : Prop where
 tr : ∀ {a b c},lt a b = true → lt b c = true → lt a c = true
 tot : ∀ {a b},lt a b = false → lt b a = false → a = b
 irr : ∀ a,lt a a = false
 is : ∀ a b,better (f a) (f b) = some (lt a b)
theorem ordL : Ord nD ltSs ltD := ⟨lt_trans,zjp,zjq,fun _ _ => zlx⟩
theorem ordG : Ord nD (fun a b => ltSs b a) gtD := ⟨fun h h2 => lt_trans h2 h,fun h h2 => zjp h2 h,zjq,fun _ _ => zlx⟩
theorem zfI {α : Type} {f : α → D} {lt : α → α → Bool} {better : D → D → Option Bool} (O : Ord f lt better) : ∀ {l : List α} {a : α}, ∃ s,bestGo better (f a) (l.map f) = some (f s) ∧ s ∈ a :: l ∧ ∀ n ∈ a :: l,lt n s = false
 | [],a => ⟨a,rfl,List.mem_cons_self,fun n h => by cases List.mem_singleton.mp h; exact O.irr a⟩
 | d :: l,a => by
  have get : ∀ {x y : α},(∀ s,lt x s = false → lt y x = false → lt y s = false) := fun {x y} s h1 h2 => by
   cases e : lt y s
   ·rfl
   ·cases e2 : lt s x
    ·rw [O.tot h1 e2] at h2
     rw [h2] at e; injection e
    ·rw [O.tr e e2] at h2; injection h2
  rw [List.map_cons]
  unfold bestGo
  rw [O.is]
  cases e : lt d a
  ·obtain ⟨s,h1,h2,h3⟩ := zfI O (l := l) (a := a)
   have ha := h3 a List.mem_cons_self
   refine ⟨s,h1, ?_,fun n hn => ?_⟩
   ·rcases List.mem_cons.mp h2 with h | h
    ·rw [h]; exact List.mem_cons_self
    ·exact List.mem_cons_of_mem _ (List.mem_cons_of_mem _ h)
   ·rcases List.mem_cons.mp hn with rfl | hn
    ·exact ha
    ·rcases List.mem_cons.mp hn with rfl | hn
     ·exact get s ha e
     ·exact h3 n (List.mem_cons_of_mem _ hn)
  ·obtain ⟨s,h1,h2,h3⟩ := zfI O (l := l) (a := d)
   refine ⟨s,h1,List.mem_cons_of_mem _ h2,fun n hn => ?_⟩
   rcases List.mem_cons.mp hn with rfl | hn
   ·refine get s (h3 d List.mem_cons_self) ?_
    cases e2 : lt n d
    ·rfl
    ·rw [← O.irr n]; exact (O.tr e2 e).symm
   ·exact h3 n hn
set_option genInjectivity false in
structure IsCp (L : List Nms) (p : Nms) : Prop where
 pre : ∀ n ∈ L,p <+: n
 top : ∀ q,(∀ n ∈ L,q <+: n) → q <+: p
theorem zly : ∀ {q a b : Nms},q <+: a → q <+: b → q <+: cp a b
 | [],_,_,_,_ => List.nil_prefix
 | c :: q,[],_,h,_ => absurd (List.prefix_nil.mp h) (List.cons_ne_nil _ _)
 | c :: q,_,[],_,h => absurd (List.prefix_nil.mp h) (List.cons_ne_nil _ _)
 | c :: q,x :: a,y :: b,h1,h2 => by
  obtain ⟨e1,h1⟩ := List.cons_prefix_cons.mp h1
  obtain ⟨e2,h2⟩ := List.cons_prefix_cons.mp h2
  rw [zep,if_pos (e1 ▸ e2),e1]
  exact List.cons_prefix_cons.mpr ⟨rfl,zly h1 h2⟩
theorem IsCp.eq {L : List Nms} {p q : Nms} (h : IsCp L p) (h2 : IsCp L q) : p = q :=
 (h2.top p h.pre).eq_of_length (Nat.le_antisymm (h2.top p h.pre).length_le (h.top q h2.pre).length_le)
theorem zlA : ∀ {a b n : Nms},ltSs n a = false → ltSs b n = false → cp a b <+: n
 | [],_,_,_,_ => List.nil_prefix
 | _ :: _,[],_,_,_ => by rw [cp_nil]; exact List.nil_prefix
 | x :: a,y :: b,[],h,_ => by rw [ltSs] at h; injection h
 | x :: a,y :: b,z :: n,h1,h2 => by
  rw [zep]
  by_cases e : x = y
  ·subst e
   rw [if_pos rfl]
   rw [zeh] at h1 h2
   by_cases e : x = z
   ·subst e
    rw [if_pos rfl] at h1 h2
    exact List.cons_prefix_cons.mpr ⟨rfl,zlA h1 h2⟩
   ·rw [if_neg fun q => e q.symm] at h1
    rw [if_neg e] at h2
    exact absurd (zjs h2 h1) e
  ·rw [if_neg e]; exact List.nil_prefix
theorem zlz : ∀ a b : Nms,cp a b <+: a
 | [],_ => List.nil_prefix
 | _ :: _,[] => List.nil_prefix
 | x :: a,y :: b => by
  rw [zep]
  split
  ·exact List.cons_prefix_cons.mpr ⟨rfl,zlz a b⟩
  ·exact List.nil_prefix
noncomputable def pth (r : Bool) (n : Nms) : List Nat := if r then told n else joinL [47] n
theorem spf {r : Bool} {n : Nms} (h : ∀ w ∈ n,Clean w) : ((sp (pth r n)).filter fun w => !decide (w = []) && !decide (w = [46])) = n := by
 have h0 : (n.filter fun w => !decide (w = []) && !decide (w = [46])) = n := List.filter_eq_self.mpr fun w hw => by
  rw [decide_eq_false (h w hw).ne,decide_eq_false (h w hw).d1]; rfl
 have hs : ∀ w ∈ n,47 ∉ w := fun w hw => (h w hw).sl
 cases r with
 | true =>
  show ((sp (told n)).filter _) = _
  cases n with
  | nil => rw [show told [] = joinL [47] [[],[]] from rfl,sp_of (by decide) (by decide)]; rfl
  | cons w n =>
   rw [show told (w :: n) = joinL [47] ([] :: w :: n) from rfl,sp_of (List.cons_ne_nil _ _) (List.forall_mem_cons.mpr ⟨List.not_mem_nil,hs⟩)]
   exact h0
 | false =>
  show ((sp (joinL [47] n)).filter _) = _
  cases n with
  | nil => rw [show joinL [47] [] = joinL [47] [[]] from rfl,sp_of (by decide) (by decide)]; rfl
  | cons w n =>
   rw [sp_of (List.cons_ne_nil _ _) hs]
   exact h0
theorem ziH {r : Bool} {n : Nms} (h : ∀ w ∈ n,Clean w) : opF .startswith [.str (pth r n),.str [47]] = some (.val (.bool r)) := by
 rw [zaR]
 cases r with
 | true => rfl
 | false =>
  show some (R.val (.bool (decide ((joinL [47] n).head? = some 47)))) = _
  rw [decide_eq_false (zib fun w hw => (h w hw).nm)]
theorem zet {α β : Type} {f : α → Option β} {g : α → β} : ∀ {l : List α},(∀ a ∈ l,f a = some (g a)) → allSome (l.map f) = some (l.map g)
 | [],_ => rfl
 | a :: l,h => by
  rw [List.map_cons,h a List.mem_cons_self]
  unfold allSome
  rw [zet fun b hb => h b (List.mem_cons_of_mem _ hb)]; rfl
section
variable {cf : CfT} {ρ : List Slot}
theorem V_mapF {α : Type} {f : Nat} {x : X} {a : R} {l : List α} {g v : α → D} (h : ev cf x ρ = some [a]) (h2 : a.ds = .list (l.map g)) (hv : ∀ a ∈ l,cf f [g a] = some (v a)) : ev cf (.mapF f x) ρ = some [.val (.tup (l.map v))] := by
 rw [zbn,h]
 simp only [h2]
 rw [List.map_map]
 exact congrArg (Option.map _) (zet hv)
theorem V_setI {α : Type} {i : Nat} {it e : X} {l : List α} {g : α → D} {b : Bool} (h : ev cf it ρ = some [.val (.list (l.map g))]) (h0 : l ≠ []) (hv : ∀ a ∈ l,ev cf e (ρ.set i (.val (g a))) = some [.val (.bool b)]) : ev cf (.setI i it e) ρ = some [.val (.bool b)] := by
 rw [zbl,h]
 simp only
 rw [zbI (p := fun _ => true) (v := fun _ => .bool b) fun a ha => zgw (p := true) rfl (fun _ => hv a ha) rfl,List.filter_eq_self.mpr fun _ _ => rfl]
 cases l with
 | nil => exact absurd rfl h0
 | cons a l =>
  show (if ((l.map fun _ => D.bool b).all fun d => match d with | .bool b' => b' == b | _ => false) = true then some [R.val (.bool b)] else none) = _
  rw [if_pos (by rw [List.all_eq_true]; intro d hd; obtain ⟨_,_,rfl⟩ := List.mem_map.mp hd; exact beq_self_eq_true b)]
theorem keep_ev {i j : Nat} {w : List Nat} (g : ρ[i]? = some (.val (.str w))) (g2 : ρ[j]? = some (.val (.str [46]))) : turnD (ev cf (.and (.var i) (.op .ne (.cons (.var i) (.cons (.var j) .nil)))) ρ) (ev cf (.var i) ρ) = some (if (!decide (w = []) && !decide (w = [46])) = true then some (.str w) else none) := by
 rw [zbf,V_v g rfl]
 cases w with
 | nil => rfl
 | cons c w =>
  show turnD (ev cf _ ρ) _ = _
  rw [V_op2 (V_v g rfl) (V_v g2 rfl) (ne_str _ _)]
  show (match (some (!decide (c :: w = [46])) : Option Bool) with | some true => some (some (D.str (c :: w))) | some false => some none | none => none) = _
  rw [decide_eq_false (List.cons_ne_nil c w)]
  cases decide (c :: w = [46]) <;> rfl
theorem zkY {i j k : Nat} {r : Bool} {n : Nms} (hn : ∀ w ∈ n,Clean w) (g : ρ[i]? = some (.val (nD (sp (pth r n))))) (g2 : ∀ d,(ρ.set k d)[k]? = some d) (g3 : ∀ d,(ρ.set k d)[j]? = some (.val (.str [46]))) :
  ev cf (.comp k (.seqI (.var i)) (.and (.var k) (.op .ne (.cons (.var k) (.cons (.var j) .nil)))) (.var k)) ρ = some [.own (n.map .str)] := by
 have := zkf (cf := cf) (ρ := ρ) (i := k) (v := D.str) (g := D.str) (zdg (V_v g rfl) rfl rfl) fun w hw => keep_ev (g2 (.val (.str w))) (g3 (.val (.str w)))
 rw [spf hn] at this
 exact this
end
noncomputable def cmB : S := (.seq (.ite (.op .ne (.cons (.var 5) (.cons (.op .index (.cons (.var 7) (.cons (.var 9) .nil))) .nil))) (.seq (.assign 8 (.op .slice (.cons (.var 6) (.cons (.const .none) (.cons (.var 9) .nil))))) (.seq .brk .skip)) .skip) .skip)
theorem zj4 {cf : CfT} {x0 x1 x2 x3 x4 y0 y1 y2 y3 y4 : Slot} {x8 : D} : ∀ (u v p : Nms) (x5 x9 : Slot),(p ++ u).length ≤ 100000 → ltSs v u = false → (cp u v = u → x8 = nD (p ++ u)) →
  ∃ z5 z9,forGo (put2 9 5) (ex cf cmB) (enumL (p.length : Int) (u.map .str)) [x0,x1,x2,x3,x4,x5,.val (nD (p ++ u)),.val (nD (p ++ v)),.val x8,x9,y0,y1,y2,y3,y4] = some ([x0,x1,x2,x3,x4,z5,.val (nD (p ++ u)),.val (nD (p ++ v)),.val (nD (p ++ cp u v)),z9,y0,y1,y2,y3,y4],.next)
 | [],v,p,x5,x9,_,_,h => ⟨x5,x9,by rw [h rfl]; rfl⟩
 | c :: u,[],p,x5,x9,_,h,_ => by rw [ltSs] at h; injection h
 | c :: u,d :: v,p,x5,x9,hl,hlt,h8 => by
  have hp : p.length ≤ 1000000 := by
   rw [List.length_append] at hl
   exact Nat.le_trans (Nat.le_trans (Nat.le_add_right _ _) hl) (by decide)
  have h1 : opF .index [nD (p ++ d :: v),.int (p.length : Int)] = some (.val (.str d)) := zcl (by rw [List.map_append,List.getElem?_append_right (by rw [List.length_map]; exact Nat.le_refl _),List.length_map,Nat.sub_self]; rfl) hp
  by_cases hcd : c = d
  ·subst hcd
   rw [zeh,if_pos rfl] at hlt
   obtain ⟨z5,z9,e⟩ := zj4 (cf := cf) (x0 := x0) (x1 := x1) (x2 := x2) (x3 := x3) (x4 := x4) (y0 := y0) (y1 := y1) (y2 := y2) (y3 := y3) (y4 := y4) (x8 := x8) u v (p ++ [c]) (.val (.str c)) (.val (.int (p.length : Int))) (by rw [List.append_assoc]; exact hl) hlt fun e => by rw [List.append_assoc]; exact h8 (by rw [zep,if_pos rfl,e])
   have e2 : cp (c :: u) (c :: v) = c :: cp u v := if_pos rfl
   rw [e2]
   refine ⟨z5,z9,zaO (st := put2 9 5) (o := .next) (ρ₂ := [x0,x1,x2,x3,x4,.val (.str c),.val (nD (p ++ c :: u)),.val (nD (p ++ c :: v)),.val x8,.val (.int (p.length : Int)),y0,y1,y2,y3,y4]) zgM ?_ (zbx ?_)⟩
   ·unfold cmB
    refine R_seq (R_ite (t := false) (T_of (V_op2 (V_v rfl rfl) (V_op2 (V_v rfl rfl) (V_v rfl rfl) h1) ?_)) (R_ff zax)) (zai zax)
    exact (ne_str c c).trans (by rw [decide_eq_true rfl]; rfl)
   ·rw [List.append_assoc,List.append_assoc,List.append_assoc,List.length_append] at e
    exact e
  ·have e2 : cp (c :: u) (d :: v) = [] := if_neg hcd
   rw [e2,List.append_nil]
   have h3 : opF .slice [nD (p ++ c :: u),.none,.int (p.length : Int)] = some (.own (p.map .str)) := by
    have := zgQ (l := (p ++ c :: u).map D.str) (n := p.length) hp (by rw [List.length_map,List.length_append]; exact Nat.le_add_right _ _)
    rw [← List.map_take,List.take_left' rfl] at this
    exact this
   refine ⟨.val (.str c),.val (.int (p.length : Int)),zaO (st := put2 9 5) (o := .brk) zgM ?_ zdJ⟩
   unfold cmB
   refine R_seq (R_ite (t := true) (T_of (V_op2 (V_v rfl rfl) (V_op2 (V_v rfl rfl) (V_v rfl rfl) h1) ?_)) (R_tt (R_seq (zam (E_of (V_op3 (V_v rfl rfl) rfl (V_v rfl rfl) h3) rfl) rfl) (zai (R_seq R_brk zbr))))) zbr
   exact (ne_str c d).trans (by rw [decide_eq_false hcd]; rfl)
theorem zkI {α : Type} {l : List α} {v : α → D} (d : α) (h : l ≠ []) : opF .index [.tup (l.map v),.int 0] = some (.val (v (l.head h))) := by
 cases l with
 | nil => exact absurd rfl h
 | cons a l => exact zfn (k := 0) rfl (by decide)
theorem min_of {l : List Nms} (h : l ≠ []) : ∃ s,opF .min [.list (l.map nD)] = some (.val (nD s)) ∧ s ∈ l ∧ ∀ n ∈ l,ltSs n s = false := by
 cases l with
 | nil => exact absurd rfl h
 | cons a l =>
  obtain ⟨s,e,h⟩ := zfI ordL (l := l) (a := a)
  exact ⟨s,by show (bestGo ltD (nD a) (l.map nD)).map R.val = _; rw [e]; rfl,h⟩
theorem max_of {l : List Nms} (h : l ≠ []) : ∃ s,opF .max [.list (l.map nD)] = some (.val (nD s)) ∧ s ∈ l ∧ ∀ n ∈ l,ltSs s n = false := by
 cases l with
 | nil => exact absurd rfl h
 | cons a l =>
  obtain ⟨s,e,h⟩ := zfI ordG (l := l) (a := a)
  exact ⟨s,by show (bestGo gtD (nD a) (l.map nD)).map R.val = _; rw [e]; rfl,h⟩
theorem zfE {fns : Nat → Option Fn} (h2 : fns 2 = some fn_fspath) (h13 : fns 13 = some fn_commonpath) (m : Nat) {r : Bool} {L : List Nms} (h0 : L ≠ []) (hc : ∀ n ∈ L, ∀ w ∈ n,Clean w) (hl : ∀ n ∈ L,n.length ≤ 1000) (hw : ∀ n ∈ L, ∀ w ∈ n,w.length ≤ 90) :
  ∃ p,callF fns (m + 2) 13 [.list (L.map fun n => .str (pth r n))] = some (.str (pth r p)) ∧ IsCp L p := by
 obtain ⟨s,e1,m1,f1⟩ := min_of h0
 obtain ⟨t,e2,m2,f2⟩ := max_of h0
 have hp : IsCp L (cp s t) := ⟨fun n hn => zlA (f1 n hn) (f2 n hn),fun q hq => zly (hq s m1) (hq t m2)⟩
 refine ⟨cp s t,zdh h13 (ρ := [.val (.list (L.map fun n => .str (pth r n))),.unset,.unset,.unset,.unset,.unset,.unset,.unset,.unset,.unset,.unset,.unset,.unset,.unset,.unset]) rfl ?_,hp⟩
 show ∃ ρ',ex (callF fns (m + 1)) s_commonpath _ = _
 have f0 := fun l => zdd h2 m l
 obtain ⟨z5,z9,lp⟩ := zj4 (cf := callF fns (m + 1)) (x0 := .val (.tup (L.map fun n => .str (pth r n)))) (x1 := .val (.str [47])) (x2 := .val (.str [46])) (x3 := .val (.list (L.map nD))) (x4 := .val (.bool r)) (y0 := .unset) (y1 := .unset) (y2 := .unset) (y3 := .unset) (y4 := .unset) (x8 := nD s) s t [] .unset .unset (Nat.le_trans (hl s m1) (by decide)) (f1 t m2) fun _ => rfl
 generalize callF fns (m + 1) = cf at *
 have jl : ∀ {n : Nms},n.length ≤ 1000 → (∀ w ∈ n,w.length ≤ 90) → (joinL [47] n).length ≤ 91000 := fun {n} h1 h2 => Nat.le_trans (zem n 90 h2) (Nat.mul_le_mul_left 91 h1)
 have jp : (joinL [47] (cp s t)).length ≤ 91000 := jl (Nat.le_trans (zlB s t) (hl s m1)) fun w h => hw s m1 w ((zlz s t).subset h)
 unfold cmB at lp
 unfold s_commonpath
 have tail : ∃ ρ',ex cf (.seq (.assign 10 (.ite (.var 4) (.var 1) (.op .slice (.cons (.var 1) (.cons (.const .none) (.cons (.const (.int 0)) .nil)))))) (.seq (.ret (.op .add (.cons (.var 10) (.cons (.op .join (.cons (.var 1) (.cons (.var 8) .nil))) .nil)))) .skip)) [.val (.tup (L.map fun n => .str (pth r n))),.val (.str [47]),.val (.str [46]),.val (.list (L.map nD)),.val (.bool r),z5,.val (nD ([] ++ s)),.val (nD ([] ++ t)),.val (nD ([] ++ cp s t)),z9,.unset,.unset,.unset,.unset,.unset] = some (ρ',.ret (.str (pth r (cp s t)))) :=
  have k : opF .add [.str (if r then [47] else []),.str (joinL [47] (cp s t))] = some (.val (.str (pth r (cp s t)))) := by
   cases r
   ·exact zfo (Nat.le_trans (Nat.add_le_add_left jp 0) (by decide))
   ·exact zfo (Nat.le_trans (Nat.add_le_add_left jp 1) (by decide))
  ⟨_,R_seq (zam (d := .str (if r then [47] else [])) (by cases r <;> rfl) rfl) (zai (R_seq (R_ret (E_of (V_op2 (V_v rfl rfl) (V_op2 (V_v rfl rfl) (V_v rfl rfl) (zi6 (ls := cp s t) (Nat.le_trans jp (by decide)))) k) rfl)) zau))⟩
 obtain ⟨ρ',tail⟩ := tail
 refine ⟨ρ',R_seq (zam (E_of (V_mapF (V_v rfl rfl) rfl fun n _ => f0 _) rfl) rfl) (zai (R_seq (R_ite (t := false) ?c1 (R_ff zax)) (zai (R_seq (R_ite (t := false) (T_of (V_op2 (V_op2 (V_v rfl rfl) rfl (zkI [] h0)) rfl rfl)) (R_ff (R_seq (zam rfl rfl) (zai (R_seq (zam rfl rfl) (zai zax)))))) (zai ?rest)))))⟩
 case rest =>
  have l1 : ∀ n ∈ L,(pth r n).length + 2 ≤ lim := by
   intro n hn
   refine Nat.le_trans (Nat.add_le_add_right (?_ : _ ≤ 91001) 2) (by decide)
   have := jl (hl n hn) (hw n hn)
   cases r
   ·exact Nat.le_succ_of_le this
   ·exact Nat.succ_le_succ this
  refine R_seq (o := .ret (.str (pth r (cp s t)))) (R_try (R_seq (zam (E_of (zeu (g := fun n => .str (pth r n)) (v := fun n => nD (sp (pth r n))) (zdg (V_v rfl rfl) rfl rfl) fun n hn => ⟨_,V_op2 (V_v rfl rfl) (V_v rfl rfl) (o_split (l1 n hn)),rfl⟩) rfl) rfl) (zai ?r2))) zau
  refine R_seq (R_try (R_seq (zam (E_of (V_setI (zdg (V_v rfl rfl) rfl rfl) h0 fun n hn => V_op2 (V_v rfl rfl) (V_v rfl rfl) (ziH (hc n hn))) rfl) rfl) (zai zax))) (zai ?_)
  refine R_seq (zam (E_of (zeu (g := fun n => nD (sp (pth r n))) (v := nD) (zdg (V_v rfl rfl) rfl rfl) fun n hn => ⟨_,zkY (hc n hn) rfl (fun _ => rfl) fun _ => rfl,rfl⟩) rfl) rfl) (zai ?_)
  exact R_seq (zam (E_of (V_op1 (V_v rfl rfl) e1) rfl) rfl) (zai (R_seq (zam (E_of (V_op1 (V_v rfl rfl) e2) rfl) rfl) (zai (R_seq (zam (E_of (V_v rfl rfl) rfl) rfl) (zai (R_seq (zlD (I_of rfl) lp) (zai tail)))))))
 case c1 =>
  rw [zcK,zbE,V_v rfl rfl]
  show truthR (Option.map _ (D.tup _).truth) = _
  cases L with
  | nil => exact absurd rfl h0
  | cons a L => rfl
end Mine
end
section
open PySem PySem.StrLaws PySem.Builtin PySem.Builtin.Str
noncomputable section
namespace Mine
noncomputable def whC : X := (.and (.op .lt (.cons (.var 17) (.cons (.op .len (.cons (.op .index (.cons (.var 16) (.cons (.const (.int 0)) .nil))) .nil)) .nil))) (.op .eq (.cons (.comp 22 (.seqI (.var 16)) (.op .ne (.cons (.op .slice (.cons (.var 22) (.cons (.var 17) (.cons (.op .add (.cons (.var 17) (.cons (.const (.int 1)) .nil))) .nil)))) (.cons (.op .slice (.cons (.op .index (.cons (.var 16) (.cons (.const (.int 0)) .nil))) (.cons (.var 17) (.cons (.op .add (.cons (.var 17) (.cons (.const (.int 1)) .nil))) .nil)))) .nil))) (.var 22)) (.cons (.list .nil) .nil))))
noncomputable def whB : S := (.seq (.assign 17 (.op .add (.cons (.var 17) (.cons (.const (.int 1)) .nil)))) .skip)
noncomputable def fdB : S := (.seq (.seq (.fz 12) (.assign 15 (.call 13 (.cons (.var 12) .nil)))) (.seq (.seq (.fz 12) (.assign 16 (.comp 21 (.seqI (.var 12)) (.const (.bool true)) (.op .split (.cons (.var 21) (.cons (.const (.str [47])) .nil)))))) (.seq (.assign 17 (.const (.int 0))) (.seq (.while whC whB) (.seq (.ite (.op .ne (.cons (.var 15) (.cons (.op .join (.cons (.const (.str [47])) (.cons (.op .slice (.cons (.op .index (.cons (.var 16) (.cons (.const (.int 0)) .nil))) (.cons (.const .none) (.cons (.var 17) .nil)))) .nil))) .nil))) (.seq (.ret (.const (.bool false))) .skip) .skip) .skip)))))
theorem word5 : ∀ n ∈ U5, ∀ w ∈ n,w ∈ wd4 := by decide +kernel
noncomputable def LL (f : Nat → Slot) : List Slot := [f 0,f 1,f 2,f 3,f 4,f 5,f 6,f 7,f 8,f 9,f 10,f 11,f 12,f 13,f 14,f 15,f 16,f 17,.unset,.unset,.unset,.unset,.unset]
set_option genInjectivity false in
structure B5 (S : List Nat) (T : List Nm) (f : Nat → Slot) : Prop where
 g1 : f 1 = .val (.tok 0)
 g2 : f 2 = .val (.tok 2)
 g4 : f 4 = .val (.list (S.map nI))
 g5 : f 5 = .val (.list (tp ([] :: T)))
 na : NA f
theorem B5.upd {S : List Nat} {T : List Nm} {f : Nat → Slot} (B : B5 S T f) {i : Nat} {v : Slot} (hv : ∀ k,appOK k v = true) (h1 : i ≠ 1 := by decide) (h2 : i ≠ 2 := by decide) (h4 : i ≠ 4 := by decide) (h5 : i ≠ 5 := by decide) : B5 S T (upd f i v) :=
 ⟨(if_neg fun e => h1 e.symm).trans B.g1,(if_neg fun e => h2 e.symm).trans B.g2,(if_neg fun e => h4 e.symm).trans B.g4,(if_neg fun e => h5 e.symm).trans B.g5,B.na.upd hv⟩
noncomputable def sl1 (c : Nat) (n : Nm) : Nm := (n.drop c).take 1
theorem zj5 {k n : Nat} (h : n ≤ k) : clip (k : Int) n = n := by
 unfold clip
 rw [if_neg (Int.not_lt.mpr (Int.natCast_nonneg k)),if_neg (Int.not_lt.mpr (Int.ofNat_le.mpr h))]
theorem zgo {k d n : Nat} (h : k ≤ 1000000) : bound (nI k) d n = some (clip (k : Int) n) := by
 show (if small (k : Int) = true then some (clip (k : Int) n) else none) = _
 rw [if_pos (zaZ h)]
theorem o_slc {n : Nm} {c d : Nat} (e : d = c + 1) (h : d ≤ 1000000) : opF .slice [nD n,nI c,nI d] = some (.own ((sl1 c n).map .str)) := by
 have hc : c ≤ 1000000 := Nat.le_trans (e ▸ Nat.le_succ c) h
 show (match bound (nI c) 0 (n.map D.str).length,bound (nI d) (n.map D.str).length (n.map D.str).length with
  | some lo,some hi => some (R.own (cut (n.map D.str) lo hi))
  | _,_ => none) = _
 rw [zgo hc,zgo h]
 show some (R.own (cut (n.map D.str) (clip (c : Int) _) (clip (d : Int) _))) = _
 rw [List.length_map]
 refine congrArg (fun l => some (R.own l)) ?_
 rcases Nat.lt_or_ge c n.length with h1 | h1
 ·rw [zcE (Nat.le_of_lt h1),zcE (k := d) (e ▸ h1),e]
  unfold cut sl1
  rw [List.map_take,List.map_drop,Nat.add_sub_cancel_left]
 ·rw [zj5 h1,zj5 (k := d) (e ▸ Nat.le_succ_of_le h1)]
  unfold cut sl1
  rw [Nat.sub_self,List.drop_eq_nil_of_le h1]; rfl
theorem o_ne_nD {a b : Nm} : opF .ne [nD a,nD b] = some (.val (.bool (!decide (a = b)))) := by
 have e : (eqD (nD a) (nD b)).map (fun x => R.val (.bool x)) = some (.val (.bool (decide (a = b)))) := o_eq_nD
 obtain ⟨x,e1,e2⟩ := Option.map_eq_some_iff.mp e
 show ((eqD (nD a) (nD b)).map (!·)).map (fun x => R.val (.bool x)) = _
 rw [e1]
 injection e2 with e2
 injection e2 with e2
 rw [e2]; rfl
theorem zkJ {F : List Nm} : opF .eq [.list (F.map nD),.list []] = some (.val (.bool (decide (F = [])))) := by
 cases F with
 | nil => rfl
 | cons a l =>
  have e : eqD (.list ((a :: l).map nD)) (.list []) = some false := by
   show (if ((D.list ((a :: l).map nD)).ok 9 && (D.list []).ok 9) = true then some (PyData.eqv (D.list ((a :: l).map nD)).toPy (D.list []).toPy) else none) = _
   have h1 : (D.list ((a :: l).map nD)).ok 9 = true := zlo (k := 6) (t := a :: l)
   rw [h1]
   show some (PyData.eqv (.list (D.toPys (nD a :: l.map nD))) (.list [])) = _
   rw [PyData.eqv]
   unfold D.toPys
   rw [PyData.eqvAll]
  show (eqD (.list ((a :: l).map nD)) (.list [])).map (fun x => R.val (.bool x)) = _
  rw [e]; rfl
theorem o_ltn {a b : Nat} : opF .lt [nI a,nI b] = some (.val (.bool (decide (a < b)))) := by
 show some (R.val (.bool (decide ((a : Int) < (b : Int))))) = _
 rw [decide_eq_decide.mpr Int.ofNat_lt]
theorem cp_exit {n0 : Nm} {F : List Nm} {c : Nat} (h0 : n0 ∈ F) (h : ∀ n ∈ F,n.take c = n0.take c) (hx : ¬ (c < n0.length ∧ ∀ n ∈ F,sl1 c n = sl1 c n0)) : IsCp F (n0.take c) := by
 refine ⟨fun n hn => h n hn ▸ List.take_prefix c n,fun q hq => ?_⟩
 by_cases hl : q.length ≤ c
 ·exact List.prefix_of_prefix_length_le (hq n0 h0) (List.take_prefix c n0) (by rw [List.length_take]; exact Nat.le_min.mpr ⟨hl,(hq n0 h0).length_le⟩)
 ·have hl := Nat.lt_of_not_le hl
  have key : ∀ n ∈ F,sl1 c n = sl1 c q := fun n hn => by
   obtain ⟨t,rfl⟩ := hq n hn
   unfold sl1
   rw [List.drop_append_of_le_length (Nat.le_of_lt hl),List.take_append_of_le_length (by rw [List.length_drop]; exact Nat.le_sub_of_add_le (by rw [Nat.add_comm]; exact hl))]
  exact absurd ⟨Nat.lt_of_lt_of_le hl (hq n0 h0).length_le,fun n hn => (key n hn).trans (key n0 h0).symm⟩ hx
section
variable {cf : CfT} {f : Nat → Slot} {S : List Nat} {T : List Nm}
set_option genInjectivity false in
structure FD (S : List Nat) (T F : List Nm) (p : Nm) (c : Nat) (f : Nat → Slot) : Prop where
 b : B5 S T f
 g15 : f 15 = .val (.str (pt p))
 g16 : f 16 = .val (.list (F.map nD))
 g17 : f 17 = .val (nI c)
noncomputable def alike (n0 : Nm) (F : List Nm) (c : Nat) : Bool := decide (c < n0.length) && decide ((F.filter fun n => !decide (sl1 c n = sl1 c n0)) = [])
theorem alike_iff {n0 : Nm} {F : List Nm} {c : Nat} : alike n0 F c = true ↔ c < n0.length ∧ ∀ n ∈ F,sl1 c n = sl1 c n0 := by
 unfold alike
 rw [Bool.and_eq_true,decide_eq_true_eq,decide_eq_true_eq,List.filter_eq_nil_iff]
 refine and_congr_right fun _ => forall_congr' fun n => forall_congr' fun _ => ?_
 cases h : decide (sl1 c n = sl1 c n0)
 ·exact ⟨fun q => absurd rfl q,fun q => by rw [decide_eq_true q] at h; injection h⟩
 ·exact ⟨fun _ => of_decide_eq_true h,fun _ q => nomatch q⟩
theorem zgZ {n0 : Nm} {F : List Nm} {ρ : List Slot} {s : Slot} (e : ρ[16]? = some s) (g : s = .val (.list ((n0 :: F).map nD))) : ev cf (.op .index (.cons (.var 16) (.cons (.const (.int 0)) .nil))) ρ = some [.val (nD n0)] :=
 V_op2 (V_v e g) rfl (zcl (k := 0) rfl (by decide))
theorem sl_ev {x : X} {n : Nm} {c : Nat} {ρ : List Slot} {s : Slot} (hx : ev cf x ρ = some [.val (nD n)]) (e : ρ[17]? = some s) (g : s = .val (nI c)) (hc : c < 1000000) : ev cf (.op .slice (.cons x (.cons (.var 17) (.cons (.op .add (.cons (.var 17) (.cons (.const (.int 1)) .nil))) .nil)))) ρ = some [.own ((sl1 c n).map .str)] :=
 V_op3 hx (V_v e g) (V_op2 (V_v e g) rfl (zee (b := 1))) (o_slc rfl hc)
theorem wh_cond {n0 : Nm} {F : List Nm} {p : Nm} {c : Nat} (I : FD S T (n0 :: F) p c f) (hc : c < 1000000) : evT cf whC (LL f) = some (alike n0 (n0 :: F) c) := by
 unfold whC
 exact T_of (V_and (V_op2 (V_v rfl I.g17) (V_op1 (zgZ rfl I.g16) zhr) o_ltn) fun _ => V_op2 (b := .own []) (zkf (g := nD) (v := nD) (p := fun n => !decide (sl1 c n = sl1 c n0)) (zdg (V_v rfl I.g16) rfl rfl) fun n _ => zgw (V_op2 (sl_ev (n := n) rfl rfl I.g17 hc) (sl_ev (zgZ rfl I.g16) rfl I.g17 hc) o_ne_nD) (fun _ => rfl) rfl) rfl zkJ)
theorem ziz {n0 : Nm} {F : List Nm} {p : Nm} (h3 : n0.length ≤ 3) : ∀ (d c fuel : Nat) {f : Nat → Slot},c + d = n0.length → d < fuel → FD S T (n0 :: F) p c f → (∀ n ∈ n0 :: F,n.take c = n0.take c) →
  ∃ f' c',whileGo (evT cf whC) (ex cf whB) fuel (LL f) = some (LL f',.next) ∧ FD S T (n0 :: F) p c' f' ∧ IsCp (n0 :: F) (n0.take c') ∧ c' ≤ n0.length
 | _,_,0,_,_,h,_,_ => absurd h (Nat.not_lt_zero _)
 | d,c,fuel + 1,f,hd,hf,I,h => by
  have hcl : c ≤ n0.length := hd ▸ Nat.le_add_right c d
  have e := wh_cond (cf := cf) I (Nat.lt_of_le_of_lt (Nat.le_trans hcl h3) (by decide))
  cases hb : alike n0 (n0 :: F) c with
  | false =>
   rw [hb] at e
   exact ⟨f,c,zbq e zcu,I,cp_exit List.mem_cons_self h (fun q => by rw [alike_iff.mpr q] at hb; injection hb),hcl⟩
  | true =>
   rw [hb] at e
   obtain ⟨h1,h2⟩ := alike_iff.mp hb
   cases d with
   | zero => rw [Nat.add_zero] at hd; exact absurd h1 (hd ▸ Nat.lt_irrefl _)
   | succ d =>
    obtain ⟨f',c',e',I'⟩ := ziz h3 d (c + 1) fuel (f := upd f 17 (.val (nI (c + 1)))) (by rw [← hd,Nat.add_assoc,Nat.add_comm 1 d]) (Nat.lt_of_succ_lt_succ hf) ⟨I.b.upd fun _ => rfl,I.g15,I.g16,rfl⟩ fun n hn => by
     rw [List.take_add,List.take_add,h n hn]
     exact congrArg _ (h2 n hn)
    refine ⟨f',c',zbq e (R_wGo (o := .next) (ρ₁ := LL (upd f 17 (.val (nI (c + 1))))) ?_ (zct e')),I'⟩
    unfold whB
    exact R_seq (zam (E_of (V_op2 (V_v rfl I.g17) rfl (zee (b := 1))) rfl) rfl) (zai zax)
theorem ow {i : Nat} {l : List D} {s : Slot} {ρ : List Slot} (e : ρ[i]? = some s) (g : s = .own l) (hd : dSlot i = false := by rfl) : ownAt ρ i = some l := by
 unfold ownAt
 rw [e,g]
 exact if_neg (by rw [hd]; exact Bool.false_ne_true)
theorem ow_no {i : Nat} {d : D} {s : Slot} {ρ : List Slot} (e : ρ[i]? = some s) (g : s = .val d) : ownAt ρ i = none := by
 unfold ownAt
 rw [e,g]
theorem fd_ok (hcp : ∀ F : List Nm,F ≠ [] → (∀ n ∈ F,n ∈ E5) → ∃ p,cf 13 [.list (tp F)] = some (.str (pt p)) ∧ IsCp F p) {n0 : Nm} {F : List Nm} (hF : ∀ n ∈ n0 :: F,n ∈ E5) (B : B5 S T f) (g12 : f 12 = .own (tp (n0 :: F))) :
  ∃ f',ex cf fdB (LL f) = some (LL f',.next) ∧ B5 S T f' := by
 obtain ⟨p,ep,hp⟩ := hcp _ (List.cons_ne_nil _ _) hF
 have h3 := len5 n0 (mem5 (hF n0 List.mem_cons_self))
 let f1 := upd f 12 (.val (.list (tp (n0 :: F))))
 let f2 := upd f1 15 (.val (.str (pt p)))
 let f3 := upd f2 16 (.val (.list ((n0 :: F).map nD)))
 let f4 := upd f3 17 (.val (nI 0))
 have a16 : ev1 cf (.comp 21 (.seqI (.var 12)) (.const (.bool true)) (.op .split (.cons (.var 21) (.cons (.const (.str [47])) .nil)))) (LL f2) = some (.list ((n0 :: F).map nD)) :=
  E_of (zeu (g := fun n => .str (pt n)) (v := nD) (l := n0 :: F) (zdg (V_v rfl rfl) rfl (congrArg some List.map_map)) fun n hn => ⟨_,V_op2 rfl rfl (zb5 zlv (hF n hn)),rfl⟩) rfl
 obtain ⟨f5,c,e,I,hc,hcl⟩ := ziz (cf := cf) (S := S) (T := T) (n0 := n0) (F := F) (p := p) h3 n0.length 0 100000 (f := f4) (Nat.zero_add _) (Nat.lt_of_le_of_lt h3 (by decide)) ⟨(((B.upd fun _ => rfl).upd fun _ => rfl).upd fun _ => rfl).upd fun _ => rfl,rfl,rfl,rfl⟩ fun _ _ => rfl
 have hpe := hp.eq hc
 have jl : (joinL [47] (n0.take c)).length ≤ lim := by
  refine Nat.le_trans (zem _ 2 fun w hw => (show ∀ w ∈ wd4,w.length ≤ 2 by decide) w (word5 n0 (mem5 (hF n0 List.mem_cons_self)) w (List.mem_of_mem_take hw))) ?_
  rw [List.length_take]
  exact Nat.le_trans (Nat.mul_le_mul_left 3 (Nat.le_trans (Nat.min_le_right _ _) h3)) (by decide)
 have tk : opF .slice [nD n0,.none,nI c] = some (.own ((n0.take c).map .str)) := (zgQ (Nat.le_trans (Nat.le_trans hcl h3) (by decide)) (by rw [List.length_map]; exact hcl)).trans (by rw [List.map_take])
 have ce : evT cf (.op .ne (.cons (.var 15) (.cons (.op .join (.cons (.const (.str [47])) (.cons (.op .slice (.cons (.op .index (.cons (.var 16) (.cons (.const (.int 0)) .nil))) (.cons (.const .none) (.cons (.var 17) .nil)))) .nil))) .nil))) (LL f5) = some false := by
  refine T_of (V_op2 (V_v rfl I.g15) (V_op2 rfl (V_op3 (zgZ rfl I.g16) rfl (V_v rfl I.g17) tk) (zi6 (ls := n0.take c) jl)) ((ne_str _ _).trans ?_))
  rw [hpe]
  unfold pt
  rw [decide_eq_true rfl]; rfl
 unfold whC whB at e
 unfold fdB
 exact ⟨f5,R_seq (R_seq (R_fz (ow rfl g12) (ρ' := LL f1) rfl) (zai (zam (ρ' := LL f2) (E_of (za9 (zaA (V_v rfl rfl) rfl) rfl ep) rfl) rfl))) (zai (R_seq (R_seq (zkg (ow_no rfl rfl)) (zai (zam (ρ' := LL f3) a16 rfl))) (zai (R_seq (zam (ρ' := LL f4) rfl rfl) (zai (R_seq (zcs e) (zai (R_seq (R_ite ce (R_ff zax)) (zai zax))))))))),I.b⟩
end
noncomputable def pcB : S := (.seq (.assign 7 (.op .fdiv (.cons (.var 7) (.cons (.const (.int 4)) .nil)))) (.seq (.assign 10 (.op .mod (.cons (.var 7) (.cons (.const (.int 17)) .nil)))) (.seq (.append 8 (.ite (.op .lt (.cons (.var 10) (.cons (.const (.int 13)) .nil))) (.call 17 (.cons (.var 10) .nil)) (.tup (.cons (.const (.str [42,42])) (.cons (.const .none) .nil))))) .skip)))
noncomputable def phB : S := (.seq (.assign 13 (.op .split (.cons (.var 6) (.cons (.const (.str [47])) .nil)))) (.seq (.assign 14 (.call 29 (.cons (.var 11) (.cons (.var 6) (.cons (.var 1) (.cons (.var 2) .nil)))))) (.seq (.seq (.fz 8) (.ite (.op .ne (.cons (.var 14) (.cons (.call 30 (.cons (.var 8) (.cons (.var 13) .nil))) .nil))) (.seq (.ret (.const (.bool false))) .skip) .skip)) (.seq (.ite (.var 14) (.seq (.append 12 (.var 6)) .skip) .skip) .skip))))
noncomputable def ptB : S := (.seq (.assign 7 (.op .add (.cons (.op .index (.cons (.var 4) (.cons (.op .add (.cons (.const (.int 4)) (.cons (.var 3) .nil))) .nil))) (.cons (.op .index (.cons (.tup (.cons (.const (.int 18)) (.cons (.const (.int 91)) (.cons (.const (.int 4)) (.cons (.const (.int 325)) (.cons (.const (.int 326)) .nil)))))) (.cons (.var 3) .nil))) .nil)))) (.seq (.assignO 8 (.list .nil)) (.seq (.forE 9 (.rangeI (.cons (.op .add (.cons (.const (.int 1)) (.cons (.op .mod (.cons (.var 7) (.cons (.const (.int 4)) .nil))) .nil))) .nil)) pcB) (.seq (.seq (.fz 8) (.assign 11 (.call 4 (.cons (.const (.str [])) (.star (.comp2 19 20 (.seqI (.var 8)) (.const (.bool true)) (.var 19))))))) (.seq (.assignO 12 (.list .nil)) (.seq (.forE 6 (.seqI (.op .slice (.cons (.var 5) (.cons (.const (.int 1)) (.cons (.const .none) .nil))))) phB) (.seq (.ite (.var 12) fdB .skip) .skip)))))))
set_option genInjectivity false in
structure CF05 (cf : CfT) : Prop where
 tree : ∀ {L : List Nat},L.length = 4 → ∃ T : List Nm,cf 28 [.list (L.map nI)] = some (.list (tp ([] :: T))) ∧ (∀ p ∈ T,p ∈ E5) ∧ T.length ≤ 12
 norm : ∀ {n : Nm},n ∈ E5 → ∃ d,cf 4 [.str (pt n),.str [46,46],.str (lst n)] = some d ∧ cf 9 [d] = some (.str (pt n))
 base : ∀ {n : Nm},n ∈ E5 → cf 8 [.str (pt n)] = some (.str (lst n))
 dress : ∀ {k : Nat},k < 13 → cf 17 [nI k] = some (pcD k)
 join : ∀ {P : List Nat},P ≠ [] → (∀ k ∈ P,k < 14) → P.length ≤ 4 → cf 4 (.str [] :: (P.map tT).map .str) = some (.str (pat5 P))
 behind : ∀ {P : List Nat} {n : Nm},(∀ k ∈ P,k < 14) → P.length ≤ 4 → n ∈ U5 → cf 29 [.str (pat5 P),.str (pt n),.tok 0,.tok 2] = some (.bool (bh P.reverse n.reverse))
 front : ∀ {P : List Nat} {n : Nm},(∀ k ∈ P,k < 14) → n ∈ U5 → cf 30 [.list (P.map pcD),nD n] = some (.bool (bh P.reverse n.reverse))
 cp : ∀ F : List Nm,F ≠ [] → (∀ n ∈ F,n ∈ E5) → ∃ p,cf 13 [.list (tp F)] = some (.str (pt p)) ∧ IsCp F p
section
variable {cf : CfT} {f : Nat → Slot} {S : List Nat} {T : List Nm}
theorem zls {i : Nat} (na : NA f) : noApp i (LL f) = true := by
 rw [zbH]
 unfold LL
 simp only [List.all_cons,List.all_nil,na _ i,zaU,Bool.and_true]
set_option genInjectivity false in
structure PC (S : List Nat) (T : List Nm) (c : Nat) (f : Nat → Slot) : Prop where
 b : B5 S T f
 q : ∃ q : Nat,f 7 = .val (nI q)
 l : ∃ P : List Nat,f 8 = .own (P.map pcD) ∧ (∀ k ∈ P,k < 14) ∧ P.length = c
theorem pc_turn (C : CF05 cf) {c : Nat} (hc : c < 4) (I : PC S T c f) : ∃ f',ex cf pcB (LL f) = some (LL f',.next) ∧ PC S T (c + 1) f' := by
 obtain ⟨B,⟨q,g7⟩,P,g8,hP,rfl⟩ := I
 let f1 := upd f 7 (.val (nI (q / 4)))
 let f2 := upd f1 10 (.val (nI (q / 4 % 17)))
 have a7 : ev1 cf (.op .fdiv (.cons (.var 7) (.cons (.const (.int 4)) .nil))) (LL f) = some (nI (q / 4)) := E_of (V_op2 (V_v rfl g7) rfl (o_div (k := 4) (by decide))) rfl
 have a10 : ev1 cf (.op .mod (.cons (.var 7) (.cons (.const (.int 17)) .nil))) (LL f1) = some (nI (q / 4 % 17)) := E_of (V_op2 (V_v rfl rfl) rfl (o_mod (k := 17) (by decide))) rfl
 have key : ∃ k,k < 14 ∧ ev1 cf (.ite (.op .lt (.cons (.var 10) (.cons (.const (.int 13)) .nil))) (.call 17 (.cons (.var 10) .nil)) (.tup (.cons (.const (.str [42,42])) (.cons (.const .none) .nil)))) (LL f2) = some (pcD k) := by
  have lt := o_ltn (a := q / 4 % 17) (b := 13)
  by_cases h : q / 4 % 17 < 13
  ·rw [decide_eq_true h] at lt
   exact ⟨_,Nat.lt_succ_of_lt h,E_of (zlf (V_op2 (V_v rfl rfl) rfl lt) (za9 (zaA (V_v rfl rfl) rfl) rfl (C.dress h))) rfl⟩
  ·rw [decide_eq_false h] at lt
   exact ⟨13,by decide,E_of (zlg (V_op2 (V_v rfl rfl) rfl lt) (a := .val (pcD 13)) rfl) rfl⟩
 obtain ⟨k,hk,a8⟩ := key
 refine ⟨upd f2 8 (.own ((P ++ [k]).map pcD)), ?_,((B.upd fun _ => rfl).upd fun _ => rfl).upd fun _ => rfl,⟨_,rfl⟩,P ++ [k],rfl,fun j hj => ?_,List.length_append⟩
 ·unfold pcB
  refine R_seq (zam (ρ' := LL f1) a7 rfl) (zai (R_seq (zam (ρ' := LL f2) a10 rfl) (zai (R_seq (zbc a8 (ow (s := f2 8) rfl g8) ?_ ?_) (zai zax)))))
  ·rw [List.length_map]; exact Nat.lt_trans hc (by decide)
  ·rw [List.map_append]; rfl
 ·rcases List.mem_append.mp hj with hj | hj
  ·exact hP j hj
  ·rw [List.mem_singleton.mp hj]; exact hk
theorem pc_loop (C : CF05 cf) {m : Nat} (hm : m ≤ 4) (I : PC S T 0 f) : ∃ f',forGo (put1 9) (ex cf pcB) ((List.range' 0 m).map nI) (LL f) = some (LL f',.next) ∧ PC S T m f' := by
 obtain ⟨_,e,f',rfl,I'⟩ := zco (cf := cf) (i := 9) (b := pcB) (I := fun k ρ => ∃ f : Nat → Slot,ρ = LL f ∧ PC S T k f) (a := 0) (m := m) (ρ := LL f) ⟨f,rfl,I⟩ fun k ρ _ hk J => by
  obtain ⟨f,rfl,B,q,l⟩ := J
  rw [Nat.zero_add] at hk
  obtain ⟨f',e,I'⟩ := pc_turn C (f := upd f 9 (.val (nI k))) (Nat.lt_of_lt_of_le hk hm) ⟨B.upd fun _ => rfl,q,l⟩
  exact ⟨LL f',.next,e,.inl rfl,f',rfl,I'⟩
 rw [Nat.zero_add] at I'
 exact ⟨f',e,I'⟩
theorem o_neb {p : Bool} : opF .ne [.bool p,.bool p] = some (.val (.bool false)) := by
 cases p <;> rfl
set_option genInjectivity false in
structure PH (S : List Nat) (T : List Nm) (P : List Nat) (F : List Nm) (f : Nat → Slot) : Prop where
 b : B5 S T f
 g8 : f 8 = .val (.list (P.map pcD))
 g11 : f 11 = .val (.str (pat5 P))
 g12 : f 12 = .own (tp F)
 hF : ∀ n ∈ F,n ∈ E5
theorem ph_turn (C : CF05 cf) {P : List Nat} (hP : ∀ k ∈ P,k < 14) (hl : P.length ≤ 4) {F : List Nm} (hFl : F.length ≤ 100) (I : PH S T P F f) {n : Nm} (hn : n ∈ E5) :
  ∃ F' f',ex cf phB (LL (upd f 6 (.val (.str (pt n))))) = some (LL f',.next) ∧ PH S T P F' f' ∧ F'.length ≤ F.length + 1 := by
 obtain ⟨B,g8,g11,g12,hF⟩ := I
 let f1 := upd f 6 (.val (.str (pt n)))
 let f2 := upd f1 13 (.val (nD n))
 let f3 := upd f2 14 (.val (.bool (bh P.reverse n.reverse)))
 have a13 : ev1 cf (.op .split (.cons (.var 6) (.cons (.const (.str [47])) .nil))) (LL f1) = some (nD n) := E_of (V_op2 (V_v rfl rfl) rfl (zb5 zlv hn)) rfl
 have a14 : ev1 cf (.call 29 (.cons (.var 11) (.cons (.var 6) (.cons (.var 1) (.cons (.var 2) .nil))))) (LL f2) = some (.bool (bh P.reverse n.reverse)) :=
  E_of (za9 (zaA (V_v rfl (show f2 11 = _ from g11)) (zaA (V_v rfl rfl) (zaA (V_v rfl (show f2 1 = _ from B.g1)) (zaA (V_v rfl (show f2 2 = _ from B.g2)) rfl)))) rfl (C.behind hP hl (mem5 hn))) rfl
 have c : evT cf (.op .ne (.cons (.var 14) (.cons (.call 30 (.cons (.var 8) (.cons (.var 13) .nil))) .nil))) (LL f3) = some false :=
  T_of (V_op2 (V_v rfl rfl) (za9 (zaA (V_v rfl (show f3 8 = _ from g8)) (zaA (V_v rfl rfl) rfl)) rfl (C.front hP (mem5 hn))) o_neb)
 have B3 : B5 S T f3 := ((B.upd fun _ => rfl).upd fun _ => rfl).upd fun _ => rfl
 have c2 : evT cf (.var 14) (LL f3) = some (bh P.reverse n.reverse) := T_of (V_v rfl rfl)
 have go : ∀ {ρ : List Slot},ex cf (.ite (.var 14) (.seq (.append 12 (.var 6)) .skip) .skip) (LL f3) = some (ρ,.next) → ex cf phB (LL f1) = some (ρ,.next) := fun h => by
  unfold phB
  exact R_seq (zam (ρ' := LL f2) a13 rfl) (zai (R_seq (zam (ρ' := LL f3) a14 rfl) (zai (R_seq (R_seq (zkg (ow_no (s := f3 8) rfl g8)) (zai (R_ite c (R_ff zax)))) (zai (R_seq h (zai zax)))))))
 cases hb : bh P.reverse n.reverse with
 | false =>
  rw [hb] at c2
  exact ⟨F,f3,go (R_ite c2 (R_ff zax)),⟨B3,g8,g11,g12,hF⟩,Nat.le_succ _⟩
 | true =>
  rw [hb] at c2
  refine ⟨F ++ [n],upd f3 12 (.own (tp (F ++ [n]))),go (R_ite c2 (R_tt (R_seq (zbc (E_of (V_v rfl rfl) rfl) (ow (s := f3 12) rfl g12) ?_ ?_) (zai zax)))),⟨B3.upd fun _ => rfl,g8,g11,rfl,fun x hx => ?_⟩,Nat.le_of_eq List.length_append⟩
  ·unfold tp
   rw [List.length_map,List.length_map]
   exact Nat.lt_of_le_of_lt hFl (by decide)
  ·have e : tp (F ++ [n]) = tp F ++ [.str (pt n)] := by
    unfold tp
    rw [List.map_append,List.map_append]; rfl
   rw [e]; rfl
  ·rcases List.mem_append.mp hx with hx | hx
   ·exact hF x hx
   ·rw [List.mem_singleton.mp hx]; exact hn
theorem ziZ (C : CF05 cf) {P : List Nat} (hP : ∀ k ∈ P,k < 14) (hl : P.length ≤ 4) : ∀ {T' F : List Nm} {f : Nat → Slot},(∀ n ∈ T',n ∈ E5) → F.length + T'.length ≤ 100 → PH S T P F f →
  ∃ F' f',forGo (put1 6) (ex cf phB) (tp T') (LL f) = some (LL f',.next) ∧ PH S T P F' f'
 | [],F,f,_,_,I => ⟨F,f,rfl,I⟩
 | n :: T',F,f,hT,hs,I => by
  have hs : F.length + T'.length + 1 ≤ 100 := hs
  obtain ⟨F1,f1,e1,I1,l1⟩ := ph_turn C hP hl (Nat.le_trans (Nat.le_trans (Nat.le_add_right _ _) (Nat.le_succ _)) hs) I (hT n List.mem_cons_self)
  obtain ⟨F2,f2,e2,I2⟩ := ziZ C hP hl (T' := T') (fun x hx => hT x (List.mem_cons_of_mem _ hx)) (Nat.le_trans (Nat.add_le_add_right l1 _) (by rw [Nat.succ_add]; exact hs)) I1
  exact ⟨F2,f2,zaO (st := put1 6) rfl e1 (zbx e2),I2⟩
theorem tl_ev {x : Slot} {ρ : List Slot} (e : ρ[5]? = some x) (g : x = .val (.list (tp ([] :: T)))) : evI cf (.seqI (.op .slice (.cons (.var 5) (.cons (.const (.int 1)) (.cons (.const .none) .nil))))) ρ = some (tp T) :=
 I_of (zdg (V_op3 (V_v e g) rfl rfl (o_dropN (n := 1) (by decide) (Nat.succ_le_succ (Nat.zero_le _)))) rfl rfl)
theorem pt_turn (C : CF05 cf) (hS : S.length = 9) (hT : ∀ n ∈ T,n ∈ E5) (hTl : T.length ≤ 12) {k : Nat} (hk : k < 5) (B : B5 S T f) : ∃ f',ex cf ptB (LL (upd f 3 (.val (nI k)))) = some (LL f',.next) ∧ B5 S T f' := by
 let v : Nat := S.getD (4 + k) 0 + ([18,91,4,325,326] : List Nat).getD k 0
 let f1 := upd (upd f 3 (.val (nI k))) 7 (.val (nI v))
 have i2 := ziB (l := [18,91,4,325,326]) (k := k) hk (Nat.le_trans (Nat.le_of_lt hk) (by decide))
 have g4 : (upd f 3 (.val (nI k))) 4 = .val (.list (S.map nI)) := B.g4
 have a7 : ev1 cf (.op .add (.cons (.op .index (.cons (.var 4) (.cons (.op .add (.cons (.const (.int 4)) (.cons (.var 3) .nil))) .nil))) (.cons (.op .index (.cons (.tup (.cons (.const (.int 18)) (.cons (.const (.int 91)) (.cons (.const (.int 4)) (.cons (.const (.int 325)) (.cons (.const (.int 326)) .nil)))))) (.cons (.var 3) .nil))) .nil))) (LL (upd f 3 (.val (nI k)))) = some (nI v) :=
  E_of (V_op2 (V_op2 (V_v rfl g4) (V_op2 rfl (V_v rfl rfl) (zee (a := 4))) (zlp (by rw [hS]; exact Nat.add_lt_add_left hk 4) (Nat.le_trans (Nat.add_le_add_left (Nat.le_of_lt hk) 4) (by decide)))) (V_op2 (a := .val (.tup (([18,91,4,325,326] : List Nat).map fun (n : Nat) => .int (n : Int)))) rfl (V_v rfl rfl) i2) (zee (a := S.getD (4 + k) 0))) rfl
 let f2 := upd f1 8 (.own [])
 have n1 : NA f1 := (B.na.upd fun _ => rfl).upd fun _ => rfl
 have hv : 1 + v % 4 ≤ 4 := Nat.add_le_add_left (Nat.le_of_lt_succ (Nat.mod_lt v (show 0 < 4 by decide))) 1
 obtain ⟨f3,e3,B3,_,P,h8,hP,hPl⟩ := pc_loop (cf := cf) (f := f2) (S := S) (T := T) C hv ⟨((B.upd fun _ => rfl).upd fun _ => rfl).upd fun _ => rfl,⟨v,rfl⟩,[],rfl,(fun _ h => nomatch h),rfl⟩
 have hP0 : P ≠ [] := fun e => by rw [e] at hPl; exact absurd hPl (by rw [Nat.add_comm]; exact nofun)
 have hP4 : P.length ≤ 4 := hPl ▸ hv
 let f4 := upd f3 8 (.val (.list (P.map pcD)))
 let f5 := upd f4 11 (.val (.str (pat5 P)))
 let f6 := upd f5 12 (.own [])
 have cm : ev cf (.comp2 19 20 (.seqI (.var 8)) (.const (.bool true)) (.var 19)) (LL f4) = some [.own ((P.map tT).map .str)] := by
  have it : ev cf (.seqI (.var 8)) (LL f4) = some [.val (.list (P.map fun k => .tup [.str (tT k),mD k]))] := zdg (V_v (d := .list (P.map pcD)) rfl rfl) rfl rfl
  have := V_comp2 (cf := cf) (ρ := LL f4) (i := 19) (j := 20) (cd := .const (.bool true)) (e := .var 19) (l := P) (g1 := fun k => .str (tT k)) (g2 := mD) (v := fun k => .str (tT k)) (p := fun _ => true) it fun k _ => rfl
  rw [List.filter_eq_self.mpr fun _ _ => rfl] at this
  rw [List.map_map]; exact this
 have a11 : ev1 cf (.call 4 (.cons (.const (.str [])) (.star (.comp2 19 20 (.seqI (.var 8)) (.const (.bool true)) (.var 19))))) (LL f4) = some (.str (pat5 P)) := by
  have st : ev cf (.star (.comp2 19 20 (.seqI (.var 8)) (.const (.bool true)) (.var 19))) (LL f4) = some (((P.map tT).map D.str).map R.val) := by
   rw [zbk,cm]; rfl
  exact E_of (za9 (zaA (a := .val (.str [])) rfl st) (ze0 (.str [] :: (P.map tT).map .str)) (C.join hP0 hP hP4)) rfl
 have n5 : NA f5 := ((B3.upd (i := 8) fun _ => rfl).upd (i := 11) fun _ => rfl).na
 obtain ⟨F,f7,e7,I7⟩ := ziZ (cf := cf) (S := S) (T := T) C hP hP4 (T' := T) (F := []) (f := f6) hT (Nat.le_trans (by rw [List.length_nil,Nat.zero_add]; exact hTl) (by decide)) ⟨((B3.upd fun _ => rfl).upd fun _ => rfl).upd fun _ => rfl,rfl,rfl,rfl,fun _ h => nomatch h⟩
 have fin : ∃ f',ex cf (.ite (.var 12) fdB .skip) (LL f7) = some (LL f',.next) ∧ B5 S T f' := by
  obtain ⟨B7,_,_,g12,hF⟩ := I7
  have e12 : ev cf (.var 12) (LL f7) = some [.bor (tp F)] := V_o rfl g12 rfl
  have t12 : evT cf (.var 12) (LL f7) = (D.list (tp F)).truth := by rw [zcK,e12]; rfl
  cases F with
  | nil => exact ⟨f7,R_ite t12 (R_ff zax),B7⟩
  | cons n0 F =>
   obtain ⟨f',e,B'⟩ := fd_ok C.cp hF B7 g12
   exact ⟨f',R_ite t12 (R_tt e),B'⟩
 obtain ⟨f8,e8,B8⟩ := fin
 refine ⟨f8, ?_,B8⟩
 unfold pcB at e3
 unfold phB at e7
 unfold ptB
 exact R_seq (zam (ρ' := LL f1) a7 rfl) (zai (R_seq (za4 (ρ' := LL f2) (zls n1) (l := []) rfl rfl) (zai (R_seq (R_for (I_of (zcc (zaA (V_op2 rfl (V_op2 (V_v rfl rfl) rfl (o_mod (k := 4) (by decide))) (zee (a := 1))) rfl) (zbe (Nat.le_trans hv (by decide))))) e3) (zai (R_seq (R_seq (R_fz (ow rfl h8) (ρ' := LL f4) rfl) (zai (zam (ρ' := LL f5) a11 rfl))) (zai (R_seq (za4 (ρ' := LL f6) (zls n5) (l := []) rfl rfl) (zai (R_seq (R_for (tl_ev rfl (show f6 5 = _ from B3.g5)) e7) (zai (R_seq e8 (zai zax)))))))))))))
end
noncomputable def nmB : S := (.seq (.ite (.op .ne (.cons (.call 9 (.cons (.call 4 (.cons (.var 6) (.cons (.const (.str [46,46])) (.cons (.call 8 (.cons (.var 6) .nil)) .nil)))) .nil)) (.cons (.var 6) .nil))) (.seq (.ret (.const (.bool false))) .skip) .skip) .skip)
theorem clean4 : ∀ w ∈ wd4,Clean w := fun w hw => by
 have h := (show ∀ w ∈ wd4,(w ≠ [] ∧ 47 ∉ w) ∧ w ≠ [46] ∧ w ≠ [46,46] by decide) w hw
 exact ⟨h.1.1,h.1.2,h.2.1,h.2.2⟩
theorem cf05 : CF05 (callF fns05 40) where
 tree := tree5 37
 norm hn := Option.bind_eq_some_iff.mp (zb5 (norm5 37) hn)
 base hn := zb5 (base5 38) hn
 dress hk := zb5 (dress5 39) (List.mem_range.mpr hk)
 join {P} h0 hP hl := by
  cases P with
  | nil => exact absurd rfl h0
  | cons k P =>
   have nm : ∀ w ∈ (k :: P).map tT,NameOK w := fun w hw => by
    obtain ⟨j,hj,rfl⟩ := List.mem_map.mp hw
    exact name5 j (hP j hj)
   have hw : ∀ w ∈ (k :: P).map tT,w.length ≤ 9 := fun w hw => by
    obtain ⟨j,hj,rfl⟩ := List.mem_map.mp hw
    exact (show ∀ k,k < 14 → (tT k).length ≤ 9 by decide) j (hP j hj)
   have ls : ∀ {bs : List (List Nat)},(∀ w ∈ bs,w.length ≤ 9) → lenS bs ≤ 10 * bs.length := fun {bs} => by
    induction bs with
    | nil => exact fun _ => Nat.le_refl _
    | cons b bs ih =>
     intro h
     show (b.length + 1) + lenS bs ≤ 10 * (bs.length + 1)
     rw [Nat.mul_succ,Nat.add_comm]
     exact Nat.add_le_add (ih fun w hw => h w (List.mem_cons_of_mem _ hw)) (Nat.succ_le_succ (h b List.mem_cons_self))
   have hl' : ((k :: P).map tT).length ≤ 4 := by rw [List.length_map]; exact hl
   have := join_ok (fns := fns05) rfl rfl rfl 38 (a := []) (bs := (k :: P).map tT) (Nat.le_trans (Nat.add_le_add_left (Nat.le_trans (ls hw) (Nat.mul_le_mul_left 10 hl')) _) (by decide)) (Nat.lt_of_le_of_lt hl' (by decide))
   refine this.trans ?_
   obtain ⟨w0,w1⟩ := nm (tT k) List.mem_cons_self
   have e1 : join1 [] (tT k) = tT k := by
    unfold join1
    rw [if_pos (.inr rfl)]
   show some (D.str (joinP (join1 [] (tT k)) (P.map tT))) = _
   rw [e1,zel w0 (fun q => w1 (List.mem_of_getLast? q)) fun w hw => nm w (List.mem_cons_of_mem _ hw)]; rfl
 behind {P n} hP hl hn := by
  have h1 : n.reverse.length ≤ 3 := by rw [List.length_reverse]; exact len5 n hn
  have h2 : P.reverse.length ≤ 4 := by rw [List.length_reverse]; exact hl
  have := zhc 7 (Q := P.reverse) (fun k hk => hP k (List.mem_reverse.mp hk)) h2 (R := n.reverse) (by rw [List.reverse_reverse]; exact hn) (Nat.add_le_add h2 h1) (n := 39) (by decide)
  rw [List.reverse_reverse,List.reverse_reverse] at this
  exact this
 front hP hn := front5 34 hP (word5 _ hn) (len5 _ hn)
 cp F h0 hF := by
  obtain ⟨p,e,h⟩ := zfE (fns := fns05) rfl rfl 38 (r := false) h0 (fun n hn w hw => clean4 w (word5 n (mem5 (hF n hn)) w hw)) (fun n hn => Nat.le_trans (len5 n (mem5 (hF n hn))) (by decide)) fun n hn w hw => (show ∀ w ∈ wd4,w.length ≤ 90 by decide) w (word5 n (mem5 (hF n hn)) w hw)
  refine ⟨p, ?_,h⟩
  unfold tp
  rw [List.map_map]
  exact e
section
variable {cf : CfT} {f : Nat → Slot} {S : List Nat} {T : List Nm}
theorem nm_loop (C : CF05 cf) (hT : ∀ n ∈ T,n ∈ E5) (B : B5 S T f) : ∃ f',forGo (put1 6) (ex cf nmB) (tp T) (LL f) = some (LL f',.next) ∧ B5 S T f' := by
 obtain ⟨_,e,f',rfl,B'⟩ := zjM (cf := cf) (i := 6) (b := nmB) (I := fun ρ => ∃ f : Nat → Slot,ρ = LL f ∧ B5 S T f) (l := tp T) (ρ := LL f) ⟨f,rfl,B⟩ fun d hd ρ J => by
  obtain ⟨f,rfl,B⟩ := J
  obtain ⟨t,ht,rfl⟩ := List.mem_map.mp hd
  obtain ⟨n,hn,rfl⟩ := List.mem_map.mp ht
  have hn := hT n hn
  obtain ⟨d,e1,e2⟩ := C.norm hn
  have c : evT cf (.op .ne (.cons (.call 9 (.cons (.call 4 (.cons (.var 6) (.cons (.const (.str [46,46])) (.cons (.call 8 (.cons (.var 6) .nil)) .nil)))) .nil)) (.cons (.var 6) .nil))) (LL (upd f 6 (.val (.str (pt n))))) = some false :=
   T_of (V_op2 (za9 (zaA (za9 (zaA (V_v rfl rfl) (zaA rfl (zaA (za9 (zaA (V_v rfl rfl) rfl) rfl (C.base hn)) rfl))) rfl e1) rfl) rfl e2) (V_v rfl rfl) ((ne_str _ _).trans (by rw [decide_eq_true rfl]; rfl)))
  refine ⟨LL (upd f 6 (.val (.str (pt n)))), ?_,_,rfl,B.upd fun _ => rfl⟩
  unfold nmB
  exact R_seq (R_ite c (R_ff zax)) (zai zax)
 exact ⟨f',e,B'⟩
theorem pt_loop (C : CF05 cf) (hS : S.length = 9) (hT : ∀ n ∈ T,n ∈ E5) (hTl : T.length ≤ 12) (B : B5 S T f) : ∃ f',forGo (put1 3) (ex cf ptB) ((List.range' 0 5).map nI) (LL f) = some (LL f',.next) := by
 obtain ⟨_,e,f',rfl,_⟩ := zco (cf := cf) (i := 3) (b := ptB) (I := fun _ ρ => ∃ f : Nat → Slot,ρ = LL f ∧ B5 S T f) (a := 0) (m := 5) (ρ := LL f) ⟨f,rfl,B⟩ fun k ρ _ hk J => by
  obtain ⟨f,rfl,B⟩ := J
  rw [Nat.zero_add] at hk
  obtain ⟨f',e,B'⟩ := pt_turn C hS hT hTl hk B
  exact ⟨LL f',.next,e,.inl rfl,f',rfl,B'⟩
 exact ⟨f',e⟩
end
noncomputable def S05 (ns : List Int) (k : Nat) : Nat := (pick ns (some (k : Int)) none (some 9)).sum.natAbs
theorem zia (ns : List Int) : ∃ ρ',ex (callF fns05 40) s_law [.val (.list (ns.map .int)),.val (.tok 0),.val (.tok 2),.unset,.unset,.unset,.unset,.unset,.unset,.unset,.unset,.unset,.unset,.unset,.unset,.unset,.unset,.unset,.unset,.unset,.unset,.unset,.unset] = some (ρ',.ret (.bool true)) := by
 have C := cf05
 generalize callF fns05 40 = cf at C
 let f0 : Nat → Slot := fun k => if k = 0 then .val (.list (ns.map .int)) else if k = 1 then .val (.tok 0) else if k = 2 then .val (.tok 2) else .unset
 have n0 : NA f0 := fun i k => by
  show appOK k (if i = 0 then _ else if i = 1 then _ else if i = 2 then _ else _) = true
  split
  ·rfl
  ·split
   ·rfl
   ·split <;> rfl
 let S := (List.range' 0 9).map (S05 ns)
 let f1 := upd f0 4 (.val (.list (S.map nI)))
 have a4 : ev1 cf (.comp 18 (.rangeI (.cons (.const (.int 9)) .nil)) (.const (.bool true)) (.op .abs (.cons (.op .sum (.cons (.op .slice3 (.cons (.var 0) (.cons (.var 18) (.cons (.const .none) (.cons (.const (.int 9)) .nil))))) .nil)) .nil))) (LL f0) = some (.list (S.map nI)) := by
  refine E_of (a := .own (S.map nI)) ?_ rfl
  rw [show S.map nI = (List.range' 0 9).map fun k => nI (S05 ns k) from List.map_map]
  refine zeu (g := nI) (zcc (zaA rfl rfl) (zbe (n := 9) (by decide))) fun k hk => ⟨_,V_op1 (V_op1 (V_op (zaA rfl (zaA (V_v rfl rfl) (zaA rfl (zaA rfl rfl)))) (zkF (ns := ns) (k := k) (n := 9) ?_ (by decide) (by decide))) o_sumi) o_absi,rfl⟩
  have := (List.mem_range'_1.mp hk).2
  rw [Nat.zero_add] at this
  exact Nat.le_trans (Nat.le_of_lt this) (by decide)
 have hS : S.length = 9 := by rw [List.length_map]; rfl
 obtain ⟨T,eT,hT,hTl⟩ := C.tree (L := S.take 4) (by rw [List.length_take,hS]; rfl)
 let f2 := upd f1 5 (.val (.list (tp ([] :: T))))
 have tk : opF .slice [.list (S.map nI),.none,.int ((4 : Nat) : Int)] = some (.own ((S.take 4).map nI)) := (zgQ (l := S.map nI) (n := 4) (by decide) (by rw [List.length_map,hS]; decide)).trans (by rw [List.map_take])
 have a5 : ev1 cf (.call 28 (.cons (.op .slice (.cons (.var 4) (.cons (.const .none) (.cons (.const (.int 4)) .nil)))) .nil)) (LL f1) = some (.list (tp ([] :: T))) :=
  E_of (za9 (zaA (V_op3 (V_v rfl rfl) rfl rfl tk) rfl) rfl eT) rfl
 have B2 : B5 S T f2 := ⟨rfl,rfl,rfl,rfl,(n0.upd fun _ => rfl).upd fun _ => rfl⟩
 obtain ⟨f3,e3,B3⟩ := nm_loop C hT B2
 obtain ⟨f4,e4⟩ := pt_loop C hS hT hTl B3
 show ∃ ρ',ex cf s_law (LL f0) = _
 unfold nmB at e3
 unfold ptB at e4
 unfold s_law
 exact ⟨LL f4,R_seq (zam (ρ' := LL f1) a4 rfl) (zai (R_seq (zam (ρ' := LL f2) a5 rfl) (zai (R_seq (R_for (tl_ev rfl rfl) e3) (zai (R_seq (R_for (I_of (zcc (zaA rfl rfl) (zbe (n := 5) (by decide)))) e4) (zai (R_seq (R_ret rfl) zau))))))))⟩
end Mine
end
open PySem PySem.Calls PyProof.Rows PySem.Builtin.Str PySem.W PySem.W.X PySem.W.ZRun
namespace Mine
noncomputable abbrev fa05 : Nat → Addr := fun i => ([182,189,111,125,132,139,0,146,153,160,0,0,0,165,196,201,206,213,0,0,0,0,0,0,0,0,0,0,220,227,232,0,0,0,0,237] : List Addr).getD i 0
theorem zei {β : Type} {x : Nat} {b : β} : ∀ {l : List (Nat × β)},l.lookup x = some b → (x,b) ∈ l
 | [],e => by cases e
 | (y,c) :: r,e => by
  rw [List.lookup_cons] at e
  cases hx : x == y with
  | true =>
   rw [hx] at e
   cases e
   rw [beq_iff_eq.mp hx]
   exact List.mem_cons_self
  | false =>
   rw [hx] at e
   exact List.mem_cons_of_mem _ (zei e)
noncomputable def rho05 (ns : List Int) : List Slot := [.val (.list (ns.map .int))] ++ List.replicate 22 .unset
noncomputable abbrev cq05 (w : World) (h : Heap) (mg mb : SV) (T : NAd) : XCx := mkCx PySem.Challenge.rw_dn0069_05.row.prog w h 188 184 qs05 mg mb fa05 T
noncomputable abbrev cc05 (w : World) (h : Heap) (mg mb : SV) (T : NAd) : XCx := (cq05 w h mg mb fun k => k).withC T cp05.dom cv05 ck05
theorem zdP : fn_law_dressed.body = s_law_dressed := by delta fn_law_dressed; exact Eq.refl _
theorem zgK (ns : List Int) : PlainRho (rho05 ns) := by
 intro j
 match j with
 | 0 => exact .inr ⟨ns,rfl⟩
 | j + 1 =>
  left
  unfold slotAt rho05
  rw [List.getD_eq_getElem?_getD,List.singleton_append,List.getElem?_cons_succ,List.getElem?_replicate]
  split <;> rfl
theorem zh9 (ns : List Int) : ∃ ρ',ex (callF fns05 40) s_law (((rho05 ns).set 1 (.val (.tok 0))).set 2 (.val (.tok 2))) = some (ρ',.ret (.bool true)) :=
 zia ns
end Mine
set_option maxHeartbeats 0 in
theorem PySem.Challenge.cw_dn0069_05_holds : PySem.Challenge.rw_dn0069_05.Holds := by
 w_on; refine holds_law Mine.said05 fun said => ?_
 refine holds_openX (q := Mine.view05) (loose := [PySem.Str.ofString "_twin_re_1",PySem.Str.ofString "_special_chars_map"]) (Xt := fun s => xlAt Mine.view05 [] s && recOk (RowW.records PySem.Challenge.rw_dn0069_05.row.toRowW) s) (XP := XL Mine.view05 []) (Yf := obsZ Mine.zas) (Ya := valZ Mine.zk 238 759) (N := 5358) ?hl (fun s e => xl_of s (Bool.and_eq_true_iff.mp e).1) XL.keeps (by rfl) (by rfl) (by rfl) (fun s e => recFacts_of (Bool.and_eq_true_iff.mp e).2) (by rfl) (by first | assumption | decide +kernel) (by decide +kernel) ⟨rfl,rfl,rfl,rfl,rfl,by decide +kernel⟩ ?hw ?hc
 case hl => exact Mine.hleft
 case hw => w_witness2
 k_fill
 intro w s₀ s₁ mg mb G y fa o pm cd doc dV kV ho hd hcd hD hmg hg args vals as hL0 hpre hlay hrd hwl hlo
 have Zf := z_facts Mine.zkeys y
 have KX := InK.keeps w s₀.heap s₁.heap Zf.2.1 hL0.keeps
 have ZN := Zf.2.2.1
 refine Ground.open G ?_
 intro T0 B D TE TW
 wrow_args hpre hlay hrd hwl hlo
 obtain ⟨hat,hsz⟩ := script_at hL0
 rw [ZN] at hat hsz
 subst hat
 have hfa := Value.ref.inj (Option.some.inj (hmg.symm.trans (mg_of (v := .ref 237) KX T0.g rfl)))
 subst hfa
 refine enter_call ?_
 have hT : TabsAt [(188,184)] s₁.heap := List.forall_mem_cons.mpr ⟨⟨codeHd_of_K KX (by kernel_rfl),KX 184 _ rfl⟩,fun _ h => nomatch h⟩
 have X := Mine.zgb (c := 188) (P := 184) KX
 rename IntsAre _ _ => hI
 rename Heap.IsList _ _ _ => hIL
 rename List Int => ns
 have hlen := hI.length
 have hobj := script_obj hL0 hIL
 have hcx : ∀ T,Mine.Inj T → Mine.CxOk (Mine.cq05 w s₁.heap mg mb T) := fun T1 h1 => Mine.cxOk_of hT X T0 (by decide +kernel) rfl (by rfl) h1
 have hx0 : ∀ a o,(ghostOf s₁.heap [(188,184)]).get? a = some o → ¬ a = 184 := fun a o e => Mine.zcC e
 have hnx : ∀ T,Mine.OkT (Mine.cq05 w s₁.heap mg mb fun k => k) T → ∀ (a : Addr) o,(ghostOf s₁.heap [(188,184)]).get? a = some o → ¬ (Mine.cc05 w s₁.heap mg mb T).X a := fun T h a o e => Mine.nxC (cx := (Mine.cq05 w s₁.heap mg mb fun k => k)) hx0 h e
 have hN : ∀ T,Mine.GN (Mine.cc05 w s₁.heap mg mb T) Mine.fs05 Mine.bs05 := fun T => Mine.gn_of (List.forall_mem_cons.mpr ⟨mg_of KX T0.g rfl,List.forall_mem_cons.mpr ⟨mg_of KX T0.g rfl,List.forall_mem_cons.mpr ⟨mg_of KX T0.g rfl,List.forall_mem_cons.mpr ⟨mg_of KX T0.g rfl,List.forall_mem_cons.mpr ⟨mg_of KX T0.g rfl,List.forall_mem_cons.mpr ⟨mg_of KX T0.g rfl,List.forall_mem_cons.mpr ⟨mg_of KX T0.g rfl,List.forall_mem_cons.mpr ⟨mg_of KX T0.g rfl,List.forall_mem_cons.mpr ⟨mg_of KX T0.g rfl,List.forall_mem_cons.mpr ⟨mg_of KX T0.g rfl,List.forall_mem_cons.mpr ⟨mg_of KX T0.g rfl,List.forall_mem_cons.mpr ⟨mg_of KX T0.g rfl,List.forall_mem_cons.mpr ⟨mg_of KX T0.g rfl,List.forall_mem_cons.mpr ⟨mg_of KX T0.g rfl,List.forall_mem_cons.mpr ⟨mg_of KX T0.g rfl,List.forall_mem_cons.mpr ⟨mg_of KX T0.g rfl,List.forall_mem_cons.mpr ⟨mg_of KX T0.g rfl,List.forall_mem_cons.mpr ⟨mg_of KX T0.g rfl,fun _ h => nomatch h⟩⟩⟩⟩⟩⟩⟩⟩⟩⟩⟩⟩⟩⟩⟩⟩⟩⟩) (List.forall_mem_cons.mpr ⟨mg_none_of KX T0.g rfl,List.forall_mem_cons.mpr ⟨mg_none_of KX T0.g rfl,List.forall_mem_cons.mpr ⟨mg_none_of KX T0.g rfl,List.forall_mem_cons.mpr ⟨mg_none_of KX T0.g rfl,List.forall_mem_cons.mpr ⟨mg_none_of KX T0.g rfl,List.forall_mem_cons.mpr ⟨mg_none_of KX T0.g rfl,List.forall_mem_cons.mpr ⟨mg_none_of KX T0.g rfl,List.forall_mem_cons.mpr ⟨mg_none_of KX T0.g rfl,List.forall_mem_cons.mpr ⟨mg_none_of KX T0.g rfl,List.forall_mem_cons.mpr ⟨mg_none_of KX T0.g rfl,List.forall_mem_cons.mpr ⟨mg_none_of KX T0.g rfl,List.forall_mem_cons.mpr ⟨mg_none_of KX T0.g rfl,List.forall_mem_cons.mpr ⟨mg_none_of KX T0.g rfl,List.forall_mem_cons.mpr ⟨mg_none_of KX T0.g rfl,List.forall_mem_cons.mpr ⟨mg_none_of KX T0.g rfl,List.forall_mem_cons.mpr ⟨mg_none_of KX T0.g rfl,fun _ h => nomatch h⟩⟩⟩⟩⟩⟩⟩⟩⟩⟩⟩⟩⟩⟩⟩⟩)
 have hsp : mg (PySem.Str.ofString "_special_chars_map") = some (.ref 172) := mg_of KX T0.g rfl
 have htw : mg (PySem.Str.ofString "_twin_re_1") = some (.ref 170) := mg_of KX T0.g rfl
 have hTG : ∀ T,Mine.OkT (Mine.cq05 w s₁.heap mg mb fun k => k) T → ∃ TG : Mine.TabG (Mine.cc05 w s₁.heap mg mb T),TG.d = 172 := fun T hO => Mine.tabG_of X (hnx T hO 172 _ (X 172 _ rfl)) rfl rfl (by decide +kernel) (by decide +kernel)
 have hPG : ∀ T,Mine.OkT (Mine.cq05 w s₁.heap mg mb fun k => k) T → ∃ PG : Mine.PatG (Mine.cc05 w s₁.heap mg mb T),PG.P = 170 := fun T hO => ⟨{ P := 170,C := 169,codes := _,nP := (hnx T hO 170 _ (X 170 _ rfl)),nC := (hnx T hO 169 _ (X 169 _ rfl)),at0 := ⟨⟨_,_,_,_,_,0,X 170 _ rfl,rfl⟩,⟨_,X 169 _ rfl⟩,by decide +kernel⟩ },rfl⟩
 have hCG : ∀ T,Mine.OkT (Mine.cq05 w s₁.heap mg mb fun k => k) T → Mine.CacheG (Mine.cc05 w s₁.heap mg mb T) Mine.cp05 := fun T hO => Mine.cacheG (cx := (Mine.cq05 w s₁.heap mg mb fun k => k)) Mine.cp05 Mine.dl05 hO (fun F h h' hF x hk => x.mono (fun _ h => h) fun a o q e => hk a o (q.elim (hF a) fun e1 e2 => hO.nx (e2.symm.trans e1)) e) (fun cf h => h)
 have hfn : ∀ T,Mine.OkT (Mine.cq05 w s₁.heap mg mb fun k => k) T → ∀ i fn,Mine.fns05 i = some fn → ∃ ε fd body ps,Mine.FnIs (Mine.cc05 w s₁.heap mg mb T) ε i fn fd body ps ∧ Mine.SoundSs (Mine.cc05 w s₁.heap mg mb T) ε body fn.body := by
  intro T hO
  obtain ⟨TG,hTGd⟩ := hTG T hO
  obtain ⟨PG,hPGP⟩ := hPG T hO
  have hdr : Mine.SoundSs (Mine.cc05 w s₁.heap mg mb T) Mine.sc_law_dressed (Mine.nthBody PySem.Challenge.pw_dn0069_05 31) Mine.fn_law_dressed.body := by
   rw [Mine.zdP]; exact @Mine.zd7 _ (hN T)
  have it10 : ∃ ε fd body ps,Mine.FnIs (Mine.cc05 w s₁.heap mg mb T) ε 17 Mine.fn_law_dressed fd body ps ∧ Mine.SoundSs (Mine.cc05 w s₁.heap mg mb T) ε body Mine.fn_law_dressed.body := by
   refine ⟨_,_,_,_,Mine.FnIs.ofK (cx := (Mine.cc05 w s₁.heap mg mb T)) (ε := Mine.sc_law_dressed) (i := 17) (a := 213) (fn := Mine.fn_law_dressed) (body := (Mine.nthBody PySem.Challenge.pw_dn0069_05 31)) (ps := [PySem.Str.ofString "code"]) X rfl (hnx T hO 213 _ (X 213 _ rfl)) rfl (by rfl) (hnx T hO _ _ (X _ _ rfl)) (fun c q e => nomatch e) (Mine.zat rfl (Mine.len1 fun _ => rfl)) rfl rfl rfl rfl rfl, ?_⟩
   with_reducible exact hdr
  have all : ∀ p ∈ ([(0,Mine.fn_escape),(1,Mine.fn_translate5),(2,Mine.fn_fspath),(3,Mine.fn_get_sep),(4,Mine.fn_join),(5,Mine.fn_split),(7,Mine.fn_splitroot),(8,Mine.fn_basename),(9,Mine.fn_normpath),(13,Mine.fn_commonpath),(14,Mine.fn_law_one),(15,Mine.fn_law_takes),(16,Mine.fn_law_means),(17,Mine.fn_law_dressed),(28,Mine.fn_law_tree),(29,Mine.fn_law_behind),(30,Mine.fn_law_front)] : List (Nat × Mine.Fn)), ∃ ε fd body ps,Mine.FnIs (Mine.cc05 w s₁.heap mg mb T) ε p.1 p.2 fd body ps ∧ Mine.SoundSs (Mine.cc05 w s₁.heap mg mb T) ε body p.2.body :=
   List.forall_mem_cons.mpr ⟨⟨_,_,_,_,Mine.FnIs.ofK (cx := (Mine.cc05 w s₁.heap mg mb T)) (ε := Mine.sc_escape) (i := 0) (a := 182) (fn := Mine.fn_escape) (body := (Mine.nthBody PySem.Challenge.pw_dn0069_05 24)) (ps := [PySem.Str.ofString "pattern"]) X rfl (hnx T hO 182 _ (X 182 _ rfl)) rfl (by rfl) (hnx T hO _ _ (X _ _ rfl)) (fun c q e => nomatch e) (Mine.zat rfl (Mine.len1 fun _ => rfl)) rfl rfl rfl rfl rfl,Mine.zhW (hN T) TG (hTGd ▸ hsp)⟩,
   List.forall_mem_cons.mpr ⟨⟨_,_,_,_,Mine.FnIs.ofK (cx := (Mine.cc05 w s₁.heap mg mb T)) (ε := Mine.sc_translate5 188) (i := 1) (a := 189) (fn := Mine.fn_translate5) (body := (Mine.nthBody PySem.Challenge.pw_dn0069_05 26)) (ps := [PySem.Str.ofString "pat",PySem.Str.ofString "STAR",PySem.Str.ofString "QUESTION_MARK"]) X rfl (hnx T hO 189 _ (X 189 _ rfl)) rfl (by rfl) (hnx T hO _ _ (X _ _ rfl)) (fun c q e => by cases e; exact ⟨rfl,rfl⟩) (Mine.zat rfl (Mine.len3 fun _ _ _ => rfl)) rfl rfl rfl rfl rfl,Mine.zeF (hN T) (Mine.LamG.withC (cx := (Mine.cq05 w s₁.heap mg mb fun k => k)) hx0 (Mine.lamG_of hT T0 (List.pairwise_singleton _ _)) hO) PG (hPGP ▸ htw) rfl⟩,
   List.forall_mem_cons.mpr ⟨⟨_,_,_,_,Mine.FnIs.ofK (cx := (Mine.cc05 w s₁.heap mg mb T)) (ε := Mine.sc_fspath) (i := 2) (a := 111) (fn := Mine.fn_fspath) (body := (Mine.nthBody PySem.Challenge.pw_dn0069_05 10)) (ps := [PySem.Str.ofString "path"]) X rfl (hnx T hO 111 _ (X 111 _ rfl)) rfl (by rfl) (hnx T hO _ _ (X _ _ rfl)) (fun c q e => nomatch e) (Mine.zat rfl (Mine.len1 fun _ => rfl)) rfl rfl rfl rfl rfl,Mine.zhV (hN T)⟩,
   List.forall_mem_cons.mpr ⟨⟨_,_,_,_,Mine.FnIs.ofK (cx := (Mine.cc05 w s₁.heap mg mb T)) (ε := Mine.sc_get_sep) (i := 3) (a := 125) (fn := Mine.fn_get_sep) (body := (Mine.nthBody PySem.Challenge.pw_dn0069_05 14)) (ps := [PySem.Str.ofString "path"]) X rfl (hnx T hO 125 _ (X 125 _ rfl)) rfl (by rfl) (hnx T hO _ _ (X _ _ rfl)) (fun c q e => nomatch e) (Mine.zat rfl (Mine.len1 fun _ => rfl)) rfl rfl rfl rfl rfl,Mine.zgG (hN T)⟩,
   List.forall_mem_cons.mpr ⟨⟨_,_,_,_,Mine.FnIs.ofK (cx := (Mine.cc05 w s₁.heap mg mb T)) (ε := Mine.sc_join) (i := 4) (a := 132) (fn := Mine.fn_join) (body := (Mine.nthBody PySem.Challenge.pw_dn0069_05 15)) (ps := [PySem.Str.ofString "a",PySem.Str.ofString "p"]) X rfl (hnx T hO 132 _ (X 132 _ rfl)) rfl (by rfl) (hnx T hO _ _ (X _ _ rfl)) (fun c q e => nomatch e) (Mine.zj9 rfl rfl fun v r => by cases r <;> kernel_rfl) rfl rfl rfl rfl rfl,Mine.zkn (hN T)⟩,
   List.forall_mem_cons.mpr ⟨⟨_,_,_,_,Mine.FnIs.ofK (cx := (Mine.cc05 w s₁.heap mg mb T)) (ε := Mine.sc_split) (i := 5) (a := 139) (fn := Mine.fn_split) (body := (Mine.nthBody PySem.Challenge.pw_dn0069_05 16)) (ps := [PySem.Str.ofString "p"]) X rfl (hnx T hO 139 _ (X 139 _ rfl)) rfl (by rfl) (hnx T hO _ _ (X _ _ rfl)) (fun c q e => nomatch e) (Mine.zat rfl (Mine.len1 fun _ => rfl)) rfl rfl rfl rfl rfl,Mine.ziM (hN T)⟩,
   List.forall_mem_cons.mpr ⟨⟨_,_,_,_,Mine.FnIs.ofK (cx := (Mine.cc05 w s₁.heap mg mb T)) (ε := Mine.sc_splitroot) (i := 7) (a := 146) (fn := Mine.fn_splitroot) (body := (Mine.nthBody PySem.Challenge.pw_dn0069_05 17)) (ps := [PySem.Str.ofString "p"]) X rfl (hnx T hO 146 _ (X 146 _ rfl)) rfl (by rfl) (hnx T hO _ _ (X _ _ rfl)) (fun c q e => nomatch e) (Mine.zat rfl (Mine.len1 fun _ => rfl)) rfl rfl rfl rfl rfl,Mine.zfg (hN T)⟩,
   List.forall_mem_cons.mpr ⟨⟨_,_,_,_,Mine.FnIs.ofK (cx := (Mine.cc05 w s₁.heap mg mb T)) (ε := Mine.sc_basename) (i := 8) (a := 153) (fn := Mine.fn_basename) (body := (Mine.nthBody PySem.Challenge.pw_dn0069_05 18)) (ps := [PySem.Str.ofString "p"]) X rfl (hnx T hO 153 _ (X 153 _ rfl)) rfl (by rfl) (hnx T hO _ _ (X _ _ rfl)) (fun c q e => nomatch e) (Mine.zat rfl (Mine.len1 fun _ => rfl)) rfl rfl rfl rfl rfl,Mine.zfX (hN T)⟩,
   List.forall_mem_cons.mpr ⟨⟨_,_,_,_,Mine.FnIs.ofK (cx := (Mine.cc05 w s₁.heap mg mb T)) (ε := Mine.sc_normpath) (i := 9) (a := 160) (fn := Mine.fn_normpath) (body := (Mine.nthBody PySem.Challenge.pw_dn0069_05 19)) (ps := [PySem.Str.ofString "path"]) X rfl (hnx T hO 160 _ (X 160 _ rfl)) rfl (by rfl) (hnx T hO _ _ (X _ _ rfl)) (fun c q e => nomatch e) (Mine.zat rfl (Mine.len1 fun _ => rfl)) rfl rfl rfl rfl rfl,Mine.zfV (hN T)⟩,
   List.forall_mem_cons.mpr ⟨⟨_,_,_,_,Mine.FnIs.ofK (cx := (Mine.cc05 w s₁.heap mg mb T)) (ε := Mine.sc_commonpath) (i := 13) (a := 165) (fn := Mine.fn_commonpath) (body := (Mine.nthBody PySem.Challenge.pw_dn0069_05 20)) (ps := [PySem.Str.ofString "paths"]) X rfl (hnx T hO 165 _ (X 165 _ rfl)) rfl (by rfl) (hnx T hO _ _ (X _ _ rfl)) (fun c q e => nomatch e) (Mine.zat rfl (Mine.len1 fun _ => rfl)) rfl rfl rfl rfl rfl,Mine.zeH (hN T)⟩,
   List.forall_mem_cons.mpr ⟨⟨_,_,_,_,Mine.FnIs.ofK (cx := (Mine.cc05 w s₁.heap mg mb T)) (ε := Mine.sc_law_one) (i := 14) (a := 196) (fn := Mine.fn_law_one) (body := (Mine.nthBody PySem.Challenge.pw_dn0069_05 28)) (ps := [PySem.Str.ofString "part",PySem.Str.ofString "sign"]) X rfl (hnx T hO 196 _ (X 196 _ rfl)) rfl (by rfl) (hnx T hO _ _ (X _ _ rfl)) (fun c q e => nomatch e) (Mine.zat rfl (Mine.len2 fun _ _ => rfl)) rfl rfl rfl rfl rfl,Mine.zgF (hN T)⟩,
   List.forall_mem_cons.mpr ⟨⟨_,_,_,_,Mine.FnIs.ofK (cx := (Mine.cc05 w s₁.heap mg mb T)) (ε := Mine.sc_law_takes) (i := 15) (a := 201) (fn := Mine.fn_law_takes) (body := (Mine.nthBody PySem.Challenge.pw_dn0069_05 29)) (ps := [PySem.Str.ofString "parts",PySem.Str.ofString "star",PySem.Str.ofString "name"]) X rfl (hnx T hO 201 _ (X 201 _ rfl)) rfl (by rfl) (hnx T hO _ _ (X _ _ rfl)) (fun c q e => nomatch e) (Mine.zat rfl (Mine.len3 fun _ _ _ => rfl)) rfl rfl rfl rfl rfl,Mine.zfh (hN T)⟩,
   List.forall_mem_cons.mpr ⟨⟨_,_,_,_,Mine.FnIs.ofK (cx := (Mine.cc05 w s₁.heap mg mb T)) (ε := Mine.sc_law_means) (i := 16) (a := 206) (fn := Mine.fn_law_means) (body := (Mine.nthBody PySem.Challenge.pw_dn0069_05 30)) (ps := [PySem.Str.ofString "items",PySem.Str.ofString "name"]) X rfl (hnx T hO 206 _ (X 206 _ rfl)) rfl (by rfl) (hnx T hO _ _ (X _ _ rfl)) (fun c q e => nomatch e) (Mine.zat rfl (Mine.len2 fun _ _ => rfl)) rfl rfl rfl rfl rfl,Mine.zfi (hN T)⟩,
   List.forall_mem_cons.mpr ⟨by with_reducible exact it10,
   List.forall_mem_cons.mpr ⟨⟨_,_,_,_,Mine.FnIs.ofK (cx := (Mine.cc05 w s₁.heap mg mb T)) (ε := Mine.sc_law_tree) (i := 28) (a := 220) (fn := Mine.fn_law_tree) (body := (Mine.nthBody PySem.Challenge.pw_dn0069_05 32)) (ps := [PySem.Str.ofString "sums"]) X rfl (hnx T hO 220 _ (X 220 _ rfl)) rfl (by rfl) (hnx T hO _ _ (X _ _ rfl)) (fun c q e => nomatch e) (Mine.zat rfl (Mine.len1 fun _ => rfl)) rfl rfl rfl rfl rfl,Mine.zfW (hN T)⟩,
   List.forall_mem_cons.mpr ⟨⟨_,_,_,_,Mine.FnIs.ofK (cx := (Mine.cc05 w s₁.heap mg mb T)) (ε := Mine.sc_law_behind) (i := 29) (a := 227) (fn := Mine.fn_law_behind) (body := (Mine.nthBody PySem.Challenge.pw_dn0069_05 33)) (ps := [PySem.Str.ofString "pattern",PySem.Str.ofString "path",PySem.Str.ofString "star",PySem.Str.ofString "lists"]) X rfl (hnx T hO 227 _ (X 227 _ rfl)) rfl (by rfl) (hnx T hO _ _ (X _ _ rfl)) (fun c q e => nomatch e) (Mine.zat rfl (Mine.len4 fun _ _ _ _ => rfl)) rfl rfl rfl rfl rfl,Mine.zeG (hN T) (hCG T hO)⟩,
   List.forall_mem_cons.mpr ⟨⟨_,_,_,_,Mine.FnIs.ofK (cx := (Mine.cc05 w s₁.heap mg mb T)) (ε := Mine.sc_law_front) (i := 30) (a := 232) (fn := Mine.fn_law_front) (body := (Mine.nthBody PySem.Challenge.pw_dn0069_05 34)) (ps := [PySem.Str.ofString "pieces",PySem.Str.ofString "names"]) X rfl (hnx T hO 232 _ (X 232 _ rfl)) rfl (by rfl) (hnx T hO _ _ (X _ _ rfl)) (fun c q e => nomatch e) (Mine.zat rfl (Mine.len2 fun _ _ => rfl)) rfl rfl rfl rfl rfl,Mine.zfj (hN T)⟩,
   fun _ h => nomatch h⟩⟩⟩⟩⟩⟩⟩⟩⟩⟩⟩⟩⟩⟩⟩⟩⟩
  exact fun i fn h => all (i,fn) (Mine.zei h)
 obtain ⟨ρ',he⟩ := Mine.zh9 ns
 have hX : ∀ T,Mine.FnIs (Mine.cq05 w s₁.heap mg mb T) Mine.sc_law 35 Mine.fn_law _ (Mine.nthBody PySem.Challenge.pw_dn0069_05 35) [PySem.Str.ofString "script"] := fun T => Mine.FnIs.ofK (cx := (Mine.cq05 w s₁.heap mg mb T)) (ε := Mine.sc_law) (i := 35) (a := 237) (fn := Mine.fn_law) (body := (Mine.nthBody PySem.Challenge.pw_dn0069_05 35)) (ps := [PySem.Str.ofString "script"]) X rfl (Nat.ne_of_beq_eq_false rfl) rfl (by rfl) (Nat.ne_of_beq_eq_false rfl) (fun c q e => nomatch e) (Mine.zat rfl (Mine.len1 fun _ => rfl)) rfl rfl rfl rfl rfl
 refine Mine.zkW (cx := (Mine.cq05 w s₁.heap mg mb fun k => k)) (dom := Mine.cp05.dom) (cv := Mine.cv05) (ck := Mine.ck05) hx0 trivial hcx (i := 35) (i1 := 1) (i2 := 2) (n := 40) hX (fun T hO => Mine.zfF (Mine.CxOk.withC (cx := (Mine.cq05 w s₁.heap mg mb fun k => k)) hx0 (hcx T hO.inj) hO) (hfn T hO) Mine.hk05 40) (fun T => Mine.zaH (x := PySem.Str.ofString "star") rfl (by decide) (Mine.zap (.cons (Mine.zab rfl) rfl .nil)) (fun _ _ _ => rfl)) rfl (by decide) (fun _ => rfl) (fun T hO => Mine.snd_law (hN T)) (ns := ns) (ρ := Mine.rho05 ns) rfl (Mine.zgK ns) rfl (Nat.le_of_ble_eq_true rfl) he (s := s₁) (F := fun a => ∃ o,(ghostOf s₁.heap [(188,184)]).get? a = some o) ⟨rfl,by decide,by decide,⟨_,rfl⟩⟩ (Mine.wd_of hT rfl hg) ?_ (fun T F' s' hO wd os => Mine.zjI hT (fun _ => rfl) (by wrow_post) wd.xi.1 (fun b o e => wd.base b o e (hnx T hO b o e)) wd.gens os)
 exact .list ⟨_,ghost_ne hobj (by simp)⟩ hobj (by rw [hlen]; unfold Mine.lim; omega) (Mine.zhy hI)
